import Derived.Test.Qxb6603573aPush
import Derived.Test.Qxb6603573aPlain
namespace Go.Proofs.Qxb6603573a.U
open Go.RowKit

theorem info21 : (Try.prog.info? 21).map (fun i => (i.zero, i.size, i.bytes)) = some (some (.int .i32 0), 1, 4) := by kernel_rfl

/-- The units, as a list. -/
def uL (U : Nat → Int) (m : Nat) : List Int := (List.range m).map U
theorem uL_len (U : Nat → Int) (m : Nat) : (uL U m).length = m := by simp [uL]
theorem uL_drop (U : Nat → Int) (m k : Nat) (h : k < m) : (uL U m).drop k = U k :: (uL U m).drop (k + 1) := by
  rw [List.drop_eq_getElem_cons (by rw [uL_len]; exact h)]
  congr 1
  simp [uL]
theorem uL_end (U : Nat → Int) (m k : Nat) (h : m ≤ k) : (uL U m).drop k = [] := List.drop_eq_nil_of_le (by rw [uL_len]; exact h)
theorem snoc_app (rs : List Int) (r : Int) (t : List Int) : rs ++ r :: t = (rs ++ [r]) ++ t := by simp

set_option maxHeartbeats 2000000 in
theorem decode_any (b o m c base : Nat) (U : Nat → Int) (v0 : Value) (w : World) (hm : m ≤ 1048576) (hU : Hid (∀ i, 0 ≤ U i ∧ U i ≤ 65535)) (hs : Cs .u16 w b o m U) (hb : b < base) (hbase : base ≤ w.heap.size) (hv : Own w base 21 .i32 v0 []) :
    Calls Try.prog 26 #[.slice (some ⟨b, o, none⟩) m c, v0] w fun e w' => ∃ v, e = .returned v ∧ Own w' base 21 .i32 v (dec (uL U m)) ∧ Below base w w' := by
  have hc := hs.2
  have HC := show Hid _ from hc
  have HV := show Hid _ from hv
  clear hs hc hv
  go_enter Try.func26, Try.ntmps26
  go_wp2
  go_loopw [1, 5] (fun v i wr => ∃ (k : Nat) (rs : List Int), k ≤ m ∧ i = .int .i64 k ∧ Hid (Own wr base 21 .i32 v rs) ∧ Hid (Below base w wr) ∧ rs.length ≤ k ∧ Hid (rs ++ dec ((uL U m).drop k) = dec (uL U m))) (fun _ i _ => m - (intOf i).toNat)
  case atStart => exact ⟨0, [], Nat.zero_le _, rfl, HV, Below.refl _ _, by simp, by simp [Hid]⟩
  case round =>
    obtain ⟨k, rs, hk, rfl, HO, HB, hrl, HD⟩ := hrel
    have hsz : base ≤ wr.heap.size := Nat.le_trans hbase HB.out.size
    by_cases hlt : k < m
    · have hlt' : (k : Int) < (m : Int) := by omega
      have q0 := (HB.out.cell (p := ⟨b, o + k, none⟩) hb).trans (HC.out k hlt)
      have hu := hU.out k
      have hDk := HD.out
      rw [uL_drop U m k hlt] at hDk
      have HK := show Hid _ from hDk
      clear HD hDk
      generalize hUk : U k = u at *
      have HU := show Hid _ from hUk
      clear hUk
      by_cases a1 : u < 55296
      · have HS : Hid ((rs ++ [u]) ++ dec ((uL U m).drop (k + 1)) = dec (uL U m)) := by have h := HK.out; rw [dec_plain (by omega), snoc_app] at h; exact h
        clear HK
        go_wp2_with (first | (at_builtin; refine wpList_push _ rfl _ _ 45 rfl base 21 .i32 4 Try.underlying45 info21 (by omega) _ rs rfl HO.out u rfl (by omega) hsz ?_))
        intro v' w1 ho1 hb1
        have HO1 := show Hid _ from ho1
        have HB1 := show Hid _ from HB.out.trans hb1
        clear ho1 hb1 HO HB
        go_wp2
        go_roundw
        case rel => exact ⟨k + 1, rs ++ [u], by omega, by go_num, HO1, HB1, by simp; omega, HS⟩
        case measure => simp [intOf]; omega
      · by_cases a2 : 57344 ≤ u
        · have HS : Hid ((rs ++ [u]) ++ dec ((uL U m).drop (k + 1)) = dec (uL U m)) := by have h := HK.out; rw [dec_plain (by omega), snoc_app] at h; exact h
          clear HK
          go_wp2_with (first | (at_builtin; refine wpList_push _ rfl _ _ 45 rfl base 21 .i32 4 Try.underlying45 info21 (by omega) _ rs rfl HO.out u rfl (by omega) hsz ?_))
          intro v' w1 ho1 hb1
          have HO1 := show Hid _ from ho1
          have HB1 := show Hid _ from HB.out.trans hb1
          clear ho1 hb1 HO HB
          go_wp2
          go_roundw
          case rel => exact ⟨k + 1, rs ++ [u], by omega, by go_num, HO1, HB1, by simp; omega, HS⟩
          case measure => simp [intOf]; omega
        · by_cases a3 : u < 56320
          · by_cases a4 : k + 1 < m
            · have hlt2 : (k : Int) + 1 < (m : Int) := by omega
              have q1 := (HB.out.cell (p := ⟨b, o + (k + 1), none⟩) hb).trans (HC.out (k + 1) a4)
              have hu1 := hU.out (k + 1)
              have hDk := HK.out
              rw [uL_drop U m (k + 1) a4] at hDk
              have HK2 := show Hid _ from hDk
              clear hDk
              generalize hUk : U (k + 1) = u2 at *
              have HU2 := show Hid _ from hUk
              clear hUk
              by_cases a5 : 56320 ≤ u2
              · by_cases a6 : u2 < 57344
                · have HS : Hid ((rs ++ [(u - 55296) * 1024 + (u2 - 56320) + 65536]) ++ dec ((uL U m).drop (k + 2)) = dec (uL U m)) := by have h := HK2.out; rw [dec_pair (by omega) ⟨by omega, by omega, by omega⟩, snoc_app] at h; exact h
                  clear HK HK2
                  go_wp2_with (first | (at_builtin; refine wpList_push _ rfl _ _ 45 rfl base 21 .i32 4 Try.underlying45 info21 (by omega) _ rs rfl HO.out ((u - 55296) * 1024 + (u2 - 56320) + 65536) rfl (by omega) hsz ?_) | (go_at_call 29; refine (rune_two _ _ _ (by omega) (by omega) (by omega) (by omega)).mono ?_; rintro e w' ⟨rfl, rfl⟩))
                  intro v' w1 ho1 hb1
                  have HO1 := show Hid _ from ho1
                  have HB1 := show Hid _ from HB.out.trans hb1
                  clear ho1 hb1 HO HB
                  go_wp2
                  go_roundw
                  case rel => exact ⟨k + 2, rs ++ [((u - 55296) * 1024 + (u2 - 56320) + 65536)], by omega, by go_num, HO1, HB1, by simp; omega, HS⟩
                  case measure => simp [intOf]; omega
                · have HS : Hid ((rs ++ [65533]) ++ dec ((uL U m).drop (k + 1)) = dec (uL U m)) := by have h := HK2.out; rw [dec_lone (by omega) (by omega), snoc_app] at h; rw [uL_drop U m (k + 1) a4, HU2.out]; exact h
                  clear HK HK2
                  go_wp2_with (first | (at_builtin; refine wpList_push _ rfl _ _ 45 rfl base 21 .i32 4 Try.underlying45 info21 (by omega) _ rs rfl HO.out 65533 rfl (by omega) hsz ?_))
                  intro v' w1 ho1 hb1
                  have HO1 := show Hid _ from ho1
                  have HB1 := show Hid _ from HB.out.trans hb1
                  clear ho1 hb1 HO HB
                  go_wp2
                  go_roundw
                  case rel => exact ⟨k + 1, rs ++ [65533], by omega, by go_num, HO1, HB1, by simp; omega, HS⟩
                  case measure => simp [intOf]; omega
              · have HS : Hid ((rs ++ [65533]) ++ dec ((uL U m).drop (k + 1)) = dec (uL U m)) := by have h := HK2.out; rw [dec_lone (by omega) (by omega), snoc_app] at h; rw [uL_drop U m (k + 1) a4, HU2.out]; exact h
                clear HK HK2
                go_wp2_with (first | (at_builtin; refine wpList_push _ rfl _ _ 45 rfl base 21 .i32 4 Try.underlying45 info21 (by omega) _ rs rfl HO.out 65533 rfl (by omega) hsz ?_))
                intro v' w1 ho1 hb1
                have HO1 := show Hid _ from ho1
                have HB1 := show Hid _ from HB.out.trans hb1
                clear ho1 hb1 HO HB
                go_wp2
                go_roundw
                case rel => exact ⟨k + 1, rs ++ [65533], by omega, by go_num, HO1, HB1, by simp; omega, HS⟩
                case measure => simp [intOf]; omega
            · have HS : Hid ((rs ++ [65533]) ++ dec ((uL U m).drop (k + 1)) = dec (uL U m)) := by have h := HK.out; rw [uL_end U m (k + 1) (by omega)] at h ⊢; rw [dec_last (by omega)] at h; rw [dec, List.append_nil]; exact h
              clear HK
              go_wp2_with (first | (at_builtin; refine wpList_push _ rfl _ _ 45 rfl base 21 .i32 4 Try.underlying45 info21 (by omega) _ rs rfl HO.out 65533 rfl (by omega) hsz ?_))
              intro v' w1 ho1 hb1
              have HO1 := show Hid _ from ho1
              have HB1 := show Hid _ from HB.out.trans hb1
              clear ho1 hb1 HO HB
              go_wp2
              go_roundw
              case rel => exact ⟨k + 1, rs ++ [65533], by omega, by go_num, HO1, HB1, by simp; omega, HS⟩
              case measure => simp [intOf]; omega
          · have HS : Hid ((rs ++ [65533]) ++ dec ((uL U m).drop (k + 1)) = dec (uL U m)) := by have h := HK.out; rw [dec_low (by omega) (by omega), snoc_app] at h; exact h
            clear HK
            go_wp2_with (first | (at_builtin; refine wpList_push _ rfl _ _ 45 rfl base 21 .i32 4 Try.underlying45 info21 (by omega) _ rs rfl HO.out 65533 rfl (by omega) hsz ?_))
            intro v' w1 ho1 hb1
            have HO1 := show Hid _ from ho1
            have HB1 := show Hid _ from HB.out.trans hb1
            clear ho1 hb1 HO HB
            go_wp2
            go_roundw
            case rel => exact ⟨k + 1, rs ++ [65533], by omega, by go_num, HO1, HB1, by simp; omega, HS⟩
            case measure => simp [intOf]; omega
    · have e : k = m := by omega
      have HF : Hid (dec (uL U m) = rs) := by
        have h := HD.out
        rw [uL_end U m k (by omega), dec, List.append_nil] at h
        exact h.symm
      clear HD
      go_wp2
      go_ret
      exact ⟨_, rfl, by rw [HF.out]; exact HO.out, HB.out⟩
end Go.Proofs.Qxb6603573a.U

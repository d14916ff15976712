import Derived.Test.Qxb6603573aWf
namespace Go.Proofs.Qxb6603573a.U
open Go.RowKit

/-- 'zzPutUnit'. -/
theorem put_any (lt : Bool) (base : Nat) (v : Value) (bs : List Int) (u : Int) (w : World) (hu : 0 ≤ u ∧ u ≤ 65535) (hl : bs.length ≤ 4194300) (hbase : base ≤ w.heap.size) (hv : Own w base 5 .u8 v bs) :
    Calls Try.prog 20 #[v, .int .u32 u, .bool lt] w fun e w' => ∃ v', e = .returned v' ∧ Own w' base 5 .u8 v' (bs ++ ut lt u) ∧ Below base w w' := by
  have HV := show Hid (Own w base 5 .u8 v bs) from hv
  clear hv
  cases lt
  · go_enter Try.func20, Try.ntmps20
    go_wp2_with (at_builtin; refine wpList_push _ rfl _ _ 22 rfl base 5 .u8 1 Try.underlying22 info5 (by omega) _ bs rfl HV.out (u / 256) rfl (by omega) hbase ?_)
    intro v1 w1 ho1 hb1
    have hsz : base ≤ w1.heap.size := Nat.le_trans hbase hb1.size
    have HO1 := show Hid (Own w1 base 5 .u8 v1 (bs ++ [u / 256])) from ho1
    have HB1 := show Hid _ from hb1
    clear ho1 hb1
    go_wp2_with (at_builtin; refine wpList_push _ rfl _ _ 22 rfl base 5 .u8 1 Try.underlying22 info5 (by omega) _ (bs ++ [u / 256]) rfl HO1.out (u % 256) rfl (by simp; omega) hsz ?_)
    intro v2 w2 ho2 hb2
    have HO2 := show Hid (Own w2 base 5 .u8 v2 (bs ++ [u / 256, u % 256])) from ho2
    have HB2 := show Hid _ from HB1.out.trans hb2
    clear ho2 hb2
    go_wp2
    go_ret
    exact ⟨_, rfl, HO2.out, HB2.out⟩
  · go_enter Try.func20, Try.ntmps20
    go_wp2_with (at_builtin; refine wpList_push _ rfl _ _ 22 rfl base 5 .u8 1 Try.underlying22 info5 (by omega) _ bs rfl HV.out (u % 256) rfl (by omega) hbase ?_)
    intro v1 w1 ho1 hb1
    have hsz : base ≤ w1.heap.size := Nat.le_trans hbase hb1.size
    have HO1 := show Hid (Own w1 base 5 .u8 v1 (bs ++ [u % 256])) from ho1
    have HB1 := show Hid _ from hb1
    clear ho1 hb1
    go_wp2_with (at_builtin; refine wpList_push _ rfl _ _ 22 rfl base 5 .u8 1 Try.underlying22 info5 (by omega) _ (bs ++ [u % 256]) rfl HO1.out (u / 256) rfl (by simp; omega) hsz ?_)
    intro v2 w2 ho2 hb2
    have HO2 := show Hid (Own w2 base 5 .u8 v2 (bs ++ [u % 256, u / 256])) from ho2
    have HB2 := show Hid _ from HB1.out.trans hb2
    clear ho2 hb2
    go_wp2
    go_ret
    exact ⟨_, rfl, HO2.out, HB2.out⟩

/-- The bytes that 'zzEncodeUTF16' writes for code points. -/
def eb (lt : Bool) (rs : List Int) : List Int := (rs.flatMap e1).flatMap (ut lt)
theorem eb_snoc (lt : Bool) (rs : List Int) (r : Int) : eb lt (rs ++ [r]) = eb lt rs ++ (e1 r).flatMap (ut lt) := by simp [eb]
theorem ut_len (lt : Bool) (u : Int) : (ut lt u).length = 2 := by cases lt <;> rfl
theorem eb_len (lt : Bool) (rs : List Int) : (eb lt rs).length ≤ 4 * rs.length := by
  induction rs with
  | nil => simp [eb]
  | cons r t ih =>
    have h1 : eb lt (r :: t) = (e1 r).flatMap (ut lt) ++ eb lt t := by simp [eb]
    have h2 : ((e1 r).flatMap (ut lt)).length ≤ 4 := by
      unfold e1; split <;> simp [ut_len]
    rw [h1, List.length_append, List.length_cons]
    omega

theorem take_snoc_fn (R : Nat → Int) (q k : Nat) (h : k < q) : (uL R q).take (k + 1) = (uL R q).take k ++ [R k] := by
  rw [List.take_succ_eq_append_getElem (by rw [uL_len]; exact h)]
  simp [uL]

set_option maxHeartbeats 1000000 in
/-- 'zzEncodeUTF16'. -/
theorem encode_any (lt : Bool) (b q c : Nat) (R : Nat → Int) (w : World) (hq : q ≤ 524288) (hs : Cs .u32 w b 0 q R) (hR : Hid (∀ i, i < q → 0 ≤ R i ∧ R i ≤ 1114111 ∧ (R i < 65536 → R i ≤ 65535))) :
    Calls Try.prog 16 #[.slice (some ⟨b, 0, none⟩) q c, .bool lt] w fun e w' => ∃ v, e = .returned v ∧ Own w' w.heap.size 5 .u8 v (eb lt (uL R q)) ∧ Below w.heap.size w w' := by
  obtain ⟨i, hi, hz0, hz1, hz2⟩ := info_parts info5
  have HS := show Hid (Cs .u32 w b 0 q R) from hs
  have hb := hs.1
  clear hs
  go_enter Try.func16, Try.ntmps16
  go_wp2_with (at_make; refine wpList_make_own _ rfl _ _ 22 rfl w.heap.size 5 i (.int .u8 0) 1 Try.underlying22 hi hz0 hz1 _ _ _ (4 * q) rfl rfl (by omega) (by rw [hz2]; omega) (by unfold maxLen; omega) (Nat.le_refl _) ?_)
  intro w1 hown hgrow
  have hb1 := Below.grown (Below.refl w.heap.size w) hgrow (Nat.le_refl _) (by simp)
  have HO := show Hid (Own w1 w.heap.size 5 .u8 _ []) from hown
  have HB := show Hid _ from hb1
  clear hown hgrow hb1
  go_wp2
  go_loopw [5, 6] (fun v i wr => ∃ k : Nat, k ≤ q ∧ i = .int .i64 k ∧ Hid (Own wr w.heap.size 5 .u8 v (eb lt ((uL R q).take k))) ∧ Hid (Below w.heap.size w wr)) (fun _ i _ => q - (intOf i).toNat)
  case atStart => exact ⟨0, Nat.zero_le _, rfl, HO, HB⟩
  case round =>
    clear HO HB
    obtain ⟨k, hk, rfl, HO, HB⟩ := hrel
    have hsz : w.heap.size ≤ wr.heap.size := HB.out.size
    have hl := eb_len lt ((uL R q).take k)
    have hl2 : ((uL R q).take k).length ≤ k := List.length_take_le _ _
    by_cases hlt : k < q
    · have hlt' : (k : Int) < (q : Int) := by omega
      have q0 : wr.cell? ⟨b, k, none⟩ = some (.int .u32 (R k)) := (HB.out.cell (p := ⟨b, k, none⟩) hb).trans (HS.out.at0 hlt)
      have hr := hR.out k hlt
      have HT := show Hid _ from take_snoc_fn R q k hlt
      generalize hRk : R k = r at *
      have HRk := show Hid _ from hRk
      clear hRk
      by_cases a1 : 65536 ≤ r
      · have HE : Hid (eb lt ((uL R q).take (k + 1)) = (eb lt ((uL R q).take k) ++ ut lt (55296 + (r - 65536) / 1024)) ++ ut lt (56320 + (r - 65536) % 1024)) := by
          unfold Hid; rw [HT.out, eb_snoc, e1, if_pos a1]; simp
        generalize eb lt ((uL R q).take k) = bs at *
        go_wp2_with fail
        refine (put_any lt w.heap.size _ bs _ _ (by omega) (by omega) (by exact hsz) (by exact HO.out)).mono ?_
        rintro e w2 ⟨v2, rfl, ho2, hb2⟩
        have hsz2 : w.heap.size ≤ w2.heap.size := Nat.le_trans hsz hb2.size
        have HO2 := show Hid (Own w2 w.heap.size 5 .u8 v2 (bs ++ ut lt (55296 + (r - 65536) / 1024))) from ho2
        have HB2 := show Hid _ from HB.out.trans hb2
        have hl3 : (bs ++ ut lt (55296 + (r - 65536) / 1024)).length ≤ 4194300 := by rw [List.length_append, ut_len]; omega
        clear ho2 hb2 HO HB q0
        go_wp2_with fail
        refine (put_any lt w.heap.size _ (bs ++ ut lt (55296 + (r - 65536) / 1024)) _ _ (by omega) hl3 (by exact hsz2) (by exact HO2.out)).mono ?_
        rintro e w3 ⟨v3, rfl, ho3, hb3⟩
        have HO3 := show Hid _ from ho3
        have HB3 := show Hid _ from HB2.out.trans hb3
        clear ho3 hb3 HO2 HB2
        go_wp2
        go_roundw
        case rel => exact ⟨k + 1, by omega, by go_num, by unfold Hid; rw [HE.out]; exact HO3.out, HB3⟩
        case measure => simp [intOf]; omega
      · have HE : Hid (eb lt ((uL R q).take (k + 1)) = eb lt ((uL R q).take k) ++ ut lt r) := by
          unfold Hid; rw [HT.out, eb_snoc, e1, if_neg a1]; simp
        generalize eb lt ((uL R q).take k) = bs at *
        go_wp2_with fail
        refine (put_any lt w.heap.size _ bs _ _ (by omega) (by omega) (by exact hsz) (by exact HO.out)).mono ?_
        rintro e w2 ⟨v2, rfl, ho2, hb2⟩
        have HO2 := show Hid (Own w2 w.heap.size 5 .u8 v2 (bs ++ ut lt r)) from ho2
        have HB2 := show Hid _ from HB.out.trans hb2
        clear ho2 hb2 HO HB q0
        go_wp2
        go_roundw
        case rel => exact ⟨k + 1, by omega, by go_num, by unfold Hid; rw [HE.out]; exact HO2.out, HB2⟩
        case measure => simp [intOf]; omega
    · have HF : Hid ((uL R q).take k = uL R q) := List.take_of_length_le (by rw [uL_len]; omega)
      go_wp2
      go_ret
      exact ⟨_, rfl, by have h := HO.out; rw [HF.out] at h; exact h, HB.out⟩
end Go.Proofs.Qxb6603573a.U

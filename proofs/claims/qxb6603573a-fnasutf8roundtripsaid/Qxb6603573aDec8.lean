import Derived.Test.Qxb6603573aEnc
namespace Go.Proofs.Qxb6603573a.U
open Go.RowKit

theorem info33 : (Try.prog.info? 33).map (fun i => (i.zero, i.size, i.bytes)) = some (some (.int .u32 0), 1, 4) := by kernel_rfl

/-- Where code point q begins. -/
def pos (rs : List Int) (q : Nat) : Nat := ((rs.take q).flatMap enc1).length

theorem pos_zero (rs : List Int) : pos rs 0 = 0 := by simp [pos]
theorem pos_all (rs : List Int) : pos rs rs.length = (rs.flatMap enc1).length := by simp [pos]
theorem take_next (rs : List Int) (q : Nat) (h : q < rs.length) : rs.take (q + 1) = rs.take q ++ [rs[q]] := List.take_succ_eq_append_getElem h
theorem pos_next (rs : List Int) (q : Nat) (h : q < rs.length) : pos rs (q + 1) = pos rs q + (enc1 rs[q]).length := by
  unfold pos; rw [take_next rs q h, List.flatMap_append, List.length_append, List.flatMap_singleton]
theorem pos_le (rs : List Int) (q : Nat) : pos rs q ≤ (rs.flatMap enc1).length := by
  have h : rs.flatMap enc1 = (rs.take q).flatMap enc1 ++ (rs.drop q).flatMap enc1 := by rw [← List.flatMap_append, List.take_append_drop]
  rw [h, List.length_append]
  unfold pos
  omega
theorem byte_at (rs : List Int) (q j : Nat) (h : q < rs.length) (hj : j < (enc1 rs[q]).length) : (rs.flatMap enc1).getD (pos rs q + j) 0 = (enc1 rs[q]).getD j 0 := by
  have e : rs = rs.take q ++ rs[q] :: rs.drop (q + 1) := by
    rw [← List.drop_eq_getElem_cons h, List.take_append_drop]
  have := enc_at (rs.take q) rs[q] (rs.drop (q + 1)) j hj
  rw [← e] at this
  exact this

set_option maxRecDepth 100000 in
set_option maxHeartbeats 2000000 in
/-- 'zzDecodeUTF8' of code points that were written as UTF-8. -/
theorem dec8_any (b n c : Nat) (rs : List Int) (w : World) (hn : (rs.flatMap enc1).length = n) (hn9 : n ≤ 4194304) (hq : rs.length ≤ 524288) (hok : Hid (∀ r ∈ rs, okR r)) (hs : Cs .u8 w b 0 n (fun i => (rs.flatMap enc1).getD i 0)) :
    Calls Try.prog 14 #[.slice (some ⟨b, 0, none⟩) n c] w fun e w' => ∃ v, e = .returned (.tuple #[v, .bool true]) ∧ Own w' w.heap.size 33 .u32 v rs ∧ Below w.heap.size w w' := by
  obtain ⟨i, hi, hz0, hz1, hz2⟩ := info_parts info33
  have HS := show Hid (Cs .u8 w b 0 n (fun i => (rs.flatMap enc1).getD i 0)) from hs
  have hb := hs.1
  have HN := show Hid _ from hn
  clear hs hn
  go_enter Try.func14, Try.ntmps14
  go_wp2_with (at_make; refine wpList_make_own _ rfl _ _ 30 rfl w.heap.size 33 i (.int .u32 0) 1 Try.underlying30 hi hz0 hz1 _ _ _ n rfl rfl (by omega) (by rw [hz2]; omega) (by unfold maxLen; omega) (Nat.le_refl _) ?_)
  intro w1 hown hgrow
  have hb1 := Below.grown (Below.refl w.heap.size w) hgrow (Nat.le_refl _) (by simp)
  have HO := show Hid (Own w1 w.heap.size 33 .u32 _ []) from hown
  have HB := show Hid _ from hb1
  clear hown hgrow hb1
  go_wp2
  go_loopw [4, 5] (fun v i wr => ∃ q p : Nat, q ≤ rs.length ∧ i = .int .i64 p ∧ Hid (p = pos rs q) ∧ Hid (Own wr w.heap.size 33 .u32 v (rs.take q)) ∧ Hid (Below w.heap.size w wr)) (fun _ i _ => n - (intOf i).toNat)
  case atStart => exact ⟨0, 0, Nat.zero_le _, rfl, (pos_zero rs).symm, HO, HB⟩
  case round =>
    clear HO HB
    obtain ⟨q, p, hk, rfl, HP, HO, HB⟩ := hrel
    have hsz : w.heap.size ≤ wr.heap.size := HB.out.size
    have htl : (rs.take q).length ≤ 4194304 := Nat.le_trans (List.length_take_le _ _) (by omega)
    by_cases hlt : q < rs.length
    · have hr := hok.out rs[q] (List.getElem_mem hlt)
      have HNX := show Hid _ from pos_next rs q hlt
      have HLE := show Hid _ from pos_le rs (q + 1)
      have HT := show Hid _ from take_next rs q hlt
      have HBY : Hid (∀ j, j < (enc1 rs[q]).length → p + j < n → wr.cell? ⟨b, p + j, none⟩ = some (.int .u8 ((enc1 rs[q]).getD j 0))) := fun j hj hjn => by
        have h := (HB.out.cell (p := ⟨b, p + j, none⟩) hb).trans (HS.out.at0 hjn)
        rw [h, HP.out, byte_at rs q j hlt hj]
      unfold okR at hr
      generalize hrq : rs[q] = r at *
      clear hrq
      have hpl : p + (enc1 r).length ≤ n := by have h1 := HNX.out; have h2 := HLE.out; have h3 := HN.out; have h4 := HP.out; omega
      have HPL : Hid (p + (enc1 r).length = pos rs (q + 1)) := by unfold Hid; rw [HP.out]; exact HNX.out.symm
      clear HNX HLE HP
      generalize rs.take q = done at *
      by_cases d1 : r < 128
      · have he : enc1 r = [r] := by unfold enc1; rw [if_pos d1]
        rw [he] at HBY hpl HPL
        simp only [List.length_cons, List.length_nil, Nat.zero_add] at HBY hpl HPL
        have q0 : wr.cell? ⟨b, p + 0, none⟩ = some (.int .u8 (r)) := HBY.out 0 (by omega) (by omega)
        clear HBY he
        rw [Nat.add_zero] at q0
        have b0 : 0 ≤ r ∧ r ≤ 127 := by omega
        have HX : Hid ((r) = r) := by unfold Hid; omega
        have hx1 : 0 ≤ (r) := by omega
        have hx2 : (r) ≤ 127 := by omega
        clear hr d1
        go_wp2
        refine wp_loop_rounds 1 ?_
        rw [rounds_succ]
        go_wp2_with (at_builtin; refine wpList_push _ rfl _ _ 30 rfl w.heap.size 33 .u32 4 Try.underlying30 info33 (by omega) _ done rfl HO.out r rfl htl hsz ?_)
        intro v' w2 ho2 hb2
        have HO2 : Hid (Own w2 w.heap.size 33 .u32 v' (rs.take (q + 1))) := by unfold Hid; rw [HT.out]; exact ho2
        have HB2 := show Hid _ from HB.out.trans hb2
        clear ho2 hb2 HO HB
        go_wp2
        go_roundw
        case rel => exact ⟨q + 1, p + 1, by omega, by go_num, HPL, HO2, HB2⟩
        case measure => simp [intOf]; omega
      · by_cases d2 : r < 2048
        · have he : enc1 r = [192 + r / 64, 128 + r % 64] := by unfold enc1; rw [if_neg d1, if_pos d2]
          rw [he] at HBY hpl HPL
          simp only [List.length_cons, List.length_nil, Nat.zero_add, Nat.reduceAdd] at HBY hpl HPL
          have q0 : wr.cell? ⟨b, p + 0, none⟩ = some (.int .u8 (192 + r / 64)) := HBY.out 0 (by omega) (by omega)
          have q1 : wr.cell? ⟨b, p + 1, none⟩ = some (.int .u8 (128 + r % 64)) := HBY.out 1 (by omega) (by omega)
          clear HBY he
          rw [Nat.add_zero] at q0
          have b0 : 192 ≤ 192 + r / 64 ∧ 192 + r / 64 ≤ 223 := by omega
          have b1 : 128 ≤ 128 + r % 64 ∧ 128 + r % 64 ≤ 191 := by omega
          have HX : Hid ((((192 + r / 64) - 192) * 64 + ((128 + r % 64) - 128)) = r) := by unfold Hid; omega
          have hx1 : 128 ≤ (((192 + r / 64) - 192) * 64 + ((128 + r % 64) - 128)) := by omega
          have hx2 : (((192 + r / 64) - 192) * 64 + ((128 + r % 64) - 128)) ≤ 2047 := by omega
          generalize 192 + r / 64 = c0 at *
          generalize 128 + r % 64 = c1 at *
          clear hr d1 d2
          go_wp2
          refine wp_loop_rounds 2 ?_
          rw [rounds_succ]
          go_wp2
          rw [rounds_succ]
          go_wp2_with (at_builtin; refine wpList_push _ rfl _ _ 30 rfl w.heap.size 33 .u32 4 Try.underlying30 info33 (by omega) _ done rfl HO.out (((c0) - 192) * 64 + ((c1) - 128)) rfl htl hsz ?_)
          intro v' w2 ho2 hb2
          have HO2 : Hid (Own w2 w.heap.size 33 .u32 v' (rs.take (q + 1))) := by unfold Hid; rw [HT.out, ← HX.out]; exact ho2
          have HB2 := show Hid _ from HB.out.trans hb2
          clear ho2 hb2 HO HB
          go_wp2
          go_roundw
          case rel => exact ⟨q + 1, p + 2, by omega, by go_num, HPL, HO2, HB2⟩
          case measure => simp [intOf]; omega
        · by_cases d3 : r < 65536
          · have he : enc1 r = [224 + r / 4096, 128 + r / 64 % 64, 128 + r % 64] := by unfold enc1; rw [if_neg d1, if_neg d2, if_pos d3]
            rw [he] at HBY hpl HPL
            simp only [List.length_cons, List.length_nil, Nat.zero_add, Nat.reduceAdd] at HBY hpl HPL
            have q0 : wr.cell? ⟨b, p + 0, none⟩ = some (.int .u8 (224 + r / 4096)) := HBY.out 0 (by omega) (by omega)
            have q1 : wr.cell? ⟨b, p + 1, none⟩ = some (.int .u8 (128 + r / 64 % 64)) := HBY.out 1 (by omega) (by omega)
            have q2 : wr.cell? ⟨b, p + 2, none⟩ = some (.int .u8 (128 + r % 64)) := HBY.out 2 (by omega) (by omega)
            clear HBY he
            rw [Nat.add_zero] at q0
            have b0 : 224 ≤ 224 + r / 4096 ∧ 224 + r / 4096 ≤ 239 := by omega
            have b1 : 128 ≤ 128 + r / 64 % 64 ∧ 128 + r / 64 % 64 ≤ 191 := by omega
            have b2 : 128 ≤ 128 + r % 64 ∧ 128 + r % 64 ≤ 191 := by omega
            have HX : Hid (((((224 + r / 4096) - 224) * 64 + ((128 + r / 64 % 64) - 128)) * 64 + ((128 + r % 64) - 128)) = r) := by unfold Hid; omega
            have hx1 : 2048 ≤ ((((224 + r / 4096) - 224) * 64 + ((128 + r / 64 % 64) - 128)) * 64 + ((128 + r % 64) - 128)) := by omega
            have hx2 : ((((224 + r / 4096) - 224) * 64 + ((128 + r / 64 % 64) - 128)) * 64 + ((128 + r % 64) - 128)) ≤ 65535 := by omega
            have hx3 : ((((224 + r / 4096) - 224) * 64 + ((128 + r / 64 % 64) - 128)) * 64 + ((128 + r % 64) - 128)) < 55296 ∨ 57344 ≤ ((((224 + r / 4096) - 224) * 64 + ((128 + r / 64 % 64) - 128)) * 64 + ((128 + r % 64) - 128)) := by omega
            generalize 224 + r / 4096 = c0 at *
            generalize 128 + r / 64 % 64 = c1 at *
            generalize 128 + r % 64 = c2 at *
            clear hr d1 d2 d3
            rcases hx3 with hx3 | hx3
            all_goals
              go_wp2
              refine wp_loop_rounds 3 ?_
              rw [rounds_succ]
              go_wp2
              rw [rounds_succ]
              go_wp2
              rw [rounds_succ]
              go_wp2_with (at_builtin; refine wpList_push _ rfl _ _ 30 rfl w.heap.size 33 .u32 4 Try.underlying30 info33 (by omega) _ done rfl HO.out ((((c0) - 224) * 64 + ((c1) - 128)) * 64 + ((c2) - 128)) rfl htl hsz ?_)
              intro v' w2 ho2 hb2
              have HO2 : Hid (Own w2 w.heap.size 33 .u32 v' (rs.take (q + 1))) := by unfold Hid; rw [HT.out, ← HX.out]; exact ho2
              have HB2 := show Hid _ from HB.out.trans hb2
              clear ho2 hb2 HO HB
              go_wp2
              go_roundw
              case rel => exact ⟨q + 1, p + 3, by omega, by go_num, HPL, HO2, HB2⟩
              case measure => simp [intOf]; omega
          · have he : enc1 r = [240 + r / 262144, 128 + r / 4096 % 64, 128 + r / 64 % 64, 128 + r % 64] := by unfold enc1; rw [if_neg d1, if_neg d2, if_neg d3]
            rw [he] at HBY hpl HPL
            simp only [List.length_cons, List.length_nil, Nat.zero_add, Nat.reduceAdd] at HBY hpl HPL
            have q0 : wr.cell? ⟨b, p + 0, none⟩ = some (.int .u8 (240 + r / 262144)) := HBY.out 0 (by omega) (by omega)
            have q1 : wr.cell? ⟨b, p + 1, none⟩ = some (.int .u8 (128 + r / 4096 % 64)) := HBY.out 1 (by omega) (by omega)
            have q2 : wr.cell? ⟨b, p + 2, none⟩ = some (.int .u8 (128 + r / 64 % 64)) := HBY.out 2 (by omega) (by omega)
            have q3 : wr.cell? ⟨b, p + 3, none⟩ = some (.int .u8 (128 + r % 64)) := HBY.out 3 (by omega) (by omega)
            clear HBY he
            rw [Nat.add_zero] at q0
            have b0 : 240 ≤ 240 + r / 262144 ∧ 240 + r / 262144 ≤ 247 := by omega
            have b1 : 128 ≤ 128 + r / 4096 % 64 ∧ 128 + r / 4096 % 64 ≤ 191 := by omega
            have b2 : 128 ≤ 128 + r / 64 % 64 ∧ 128 + r / 64 % 64 ≤ 191 := by omega
            have b3 : 128 ≤ 128 + r % 64 ∧ 128 + r % 64 ≤ 191 := by omega
            have HX : Hid ((((((240 + r / 262144) - 240) * 64 + ((128 + r / 4096 % 64) - 128)) * 64 + ((128 + r / 64 % 64) - 128)) * 64 + ((128 + r % 64) - 128)) = r) := by unfold Hid; omega
            have hx1 : 65536 ≤ (((((240 + r / 262144) - 240) * 64 + ((128 + r / 4096 % 64) - 128)) * 64 + ((128 + r / 64 % 64) - 128)) * 64 + ((128 + r % 64) - 128)) := by omega
            have hx2 : (((((240 + r / 262144) - 240) * 64 + ((128 + r / 4096 % 64) - 128)) * 64 + ((128 + r / 64 % 64) - 128)) * 64 + ((128 + r % 64) - 128)) ≤ 1114111 := by omega
            generalize 240 + r / 262144 = c0 at *
            generalize 128 + r / 4096 % 64 = c1 at *
            generalize 128 + r / 64 % 64 = c2 at *
            generalize 128 + r % 64 = c3 at *
            clear hr d1 d2 d3
            go_wp2
            refine wp_loop_rounds 4 ?_
            rw [rounds_succ]
            go_wp2
            rw [rounds_succ]
            go_wp2
            rw [rounds_succ]
            go_wp2
            rw [rounds_succ]
            go_wp2_with (at_builtin; refine wpList_push _ rfl _ _ 30 rfl w.heap.size 33 .u32 4 Try.underlying30 info33 (by omega) _ done rfl HO.out (((((c0) - 240) * 64 + ((c1) - 128)) * 64 + ((c2) - 128)) * 64 + ((c3) - 128)) rfl htl hsz ?_)
            intro v' w2 ho2 hb2
            have HO2 : Hid (Own w2 w.heap.size 33 .u32 v' (rs.take (q + 1))) := by unfold Hid; rw [HT.out, ← HX.out]; exact ho2
            have HB2 := show Hid _ from HB.out.trans hb2
            clear ho2 hb2 HO HB
            go_wp2
            go_roundw
            case rel => exact ⟨q + 1, p + 4, by omega, by go_num, HPL, HO2, HB2⟩
            case measure => simp [intOf]; omega
    · have e : q = rs.length := by omega
      have HF : Hid (p = n) := by unfold Hid; rw [HP.out, e, pos_all]; exact HN.out
      have HT : Hid (rs.take q = rs) := by rw [e]; exact List.take_length
      have hpn : p = n := HF.out
      clear HF
      subst hpn
      go_wp2
      go_ret2
      exact ⟨_, rfl, by have h := HO.out; rw [HT.out] at h; exact h, HB.out⟩
end Go.Proofs.Qxb6603573a.U

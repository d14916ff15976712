import Derived.Test.Qxb6603573aTopParts
import Derived.Deep.RegionWith
namespace Go.Proofs.Qxb6603573a.U
open Go.RowKit

/-- What is known of data that bears no mark, in whatever later world. -/
def Stays (D : Value) (w1 : World) : Prop := ∀ w', Below w1.heap.size w1 w' →
  (Calls Try.prog 11 #[D] w' fun e w2 => e = .returned D ∧ Below w'.heap.size w' w2) ∧
  (Calls Try.prog 12 #[D, D] w' fun e w2 => e = .returned (.bool true) ∧ Below w'.heap.size w' w2) ∧
  (Calls Try.prog 13 #[D] w' fun e w2 => e = .returned (.tuple #[.bool false, .bool false]) ∧ Below w'.heap.size w' w2)

theorem stp {w1 w2 w3 : World} (h : Below w1.heap.size w1 w2) (k : Below w2.heap.size w2 w3) : Below w1.heap.size w1 w3 := h.trans (Below.mono k h.size)

/-- No mark. -/
theorem top_plain (a : Option Addr) (n c : Nat) (D : Value) (w : World) (hn : ¬ (1048576 : Int) < (n : Int))
    (h6 : Hid (Calls Try.prog 6 #[.slice a n c] w fun e w1 => e = .returned D ∧ Below w.heap.size w w1 ∧ Stays D w1)) :
    Calls Try.prog 4 #[.slice a n c] w fun e w' => e = .returned (.bool true) ∧ Below w.heap.size w w' := by
  go_enter Try.func4, Try.ntmps4
  go_wp2_with (go_at_call 10; go_in)
  refine h6.out.mono ?_
  rintro e w1 ⟨rfl, hb1, hst⟩
  have HST := show Hid (Stays D w1) from hst
  have HB1 := show Hid _ from hb1
  clear hst hb1
  go_wp2_with fail
  refine ((HST.out _ (Below.refl _ _)).1).mono ?_
  rintro e w2 ⟨rfl, hb2⟩
  have HB2 := show Hid _ from hb2
  clear hb2
  go_wp2_with fail
  refine ((HST.out _ HB2.out).1).mono ?_
  rintro e w3 ⟨rfl, hb3⟩
  have HB3 := show Hid _ from stp HB2.out hb3
  clear hb3 HB2
  go_wp2_with fail
  refine ((HST.out _ HB3.out).2.1).mono ?_
  rintro e w4 ⟨rfl, hb4⟩
  have HB4 := show Hid _ from stp HB3.out hb4
  clear hb4 HB3
  go_wp2_with fail
  refine ((HST.out _ HB4.out).2.2).mono ?_
  rintro e w5 ⟨rfl, hb5⟩
  have HB5 := show Hid _ from stp HB4.out hb5
  clear hb5 HB4
  go_wp2_with fail
  refine ((HST.out _ HB5.out).2.1).mono ?_
  rintro e w6 ⟨rfl, hb6⟩
  have HB6 := show Hid _ from stp HB5.out hb6
  clear hb6 HB5
  go_wp2_with fail
  go_ret
  exact ⟨rfl, stp HB1.out HB6.out⟩

set_option maxHeartbeats 1000000 in
/-- A mark: the little order's or the big's. 'hb18': what 'asUTF8' makes of the data (proved for either order); 'h13': what 'zzMark' says. -/
theorem top_marked (lt : Bool) (a : Option Addr) (n c : Nat) (f : Nat → Int) (w : World) (hn2 : 2 ≤ n) (hn : ¬ (1048576 : Int) < (n : Int)) (hf : Hid (Bd f)) (hun : Hid (un lt f 0 = 65279))
    (h6 : Hid (Calls Try.prog 6 #[.slice a n c] w fun e w1 => e = .returned (.slice (some ⟨w.heap.size, 0, none⟩) n n) ∧ Below w.heap.size w w1 ∧ Cs .u8 w1 w.heap.size 0 n f))
    (h18 : Hid (∀ w1, Cs .u8 w1 w.heap.size 0 n f → Calls Try.prog 18 #[.slice (some ⟨w.heap.size, 0, none⟩) n n] w1 fun e w' => ∃ g cap, e = .returned (.slice (some ⟨g, 0, none⟩) ((dec (uL (un lt f) (n / 2))).flatMap enc1).length cap) ∧
      ((dec (uL (un lt f) (n / 2))).flatMap enc1).length ≤ cap ∧ Cs .u8 w' g 0 ((dec (uL (un lt f) (n / 2))).flatMap enc1).length (fun i => ((dec (uL (un lt f) (n / 2))).flatMap enc1).getD i 0) ∧ Below w1.heap.size w1 w'))
    (h13 : Hid (∀ w1, Cs .u8 w1 w.heap.size 0 n f → Calls Try.prog 13 #[.slice (some ⟨w.heap.size, 0, none⟩) n n] w1 fun e w' => e = .returned (.tuple #[.bool lt, .bool (!lt)]) ∧ Below w1.heap.size w1 w')) :
    Calls Try.prog 4 #[.slice a n c] w fun e w' => e = .returned (.bool true) ∧ Below w.heap.size w w' := by
  have HOK : Hid (∀ r ∈ dec (uL (un lt f) (n / 2)), okR r) := dec_ok _ (units_bd hf.out lt _)
  have hq : (dec (uL (un lt f) (n / 2))).length ≤ 524288 := Nat.le_trans (dec_len _) (by rw [uL_len]; omega)
  have hq0 : 0 < (dec (uL (un lt f) (n / 2))).length := dec_pos (by rw [uL_len]; omega)
  have hL := enc_len_le (dec (uL (un lt f) (n / 2)))
  obtain ⟨t, ht⟩ := dec_mark (un lt f) (n / 2) (by omega) hun.out
  have HR0 : Hid ((dec (uL (un lt f) (n / 2))).getD 0 0 = 65279) := by unfold Hid; rw [ht]; rfl
  have HE : Hid (∃ l, (dec (uL (un lt f) (n / 2))).flatMap enc1 = 239 :: 187 :: 191 :: l) := by unfold Hid; rw [ht]; exact mark_enc t
  clear ht t
  have HEB : Hid (∀ w lt2, wfU (uL (un lt f) (n / 2)) = true → lt2 = lt → ∀ b c, Cs .u32 w b 0 (dec (uL (un lt f) (n / 2))).length (fun i => (dec (uL (un lt f) (n / 2))).getD i 0) →
      Calls Try.prog 16 #[.slice (some ⟨b, 0, none⟩) (dec (uL (un lt f) (n / 2))).length c, .bool lt2] w fun e w' => ∃ g cap, e = .returned (.slice (some ⟨g, 0, none⟩) (n / 2 * 2) cap) ∧ Cs .u8 w' g 0 (n / 2 * 2) f ∧ Below w.heap.size w w') :=
    fun w lt2 hw hlt b c hs => by subst hlt; exact encode_back lt2 b n c f w hn2 (by omega) hf.out hw hs
  have HWF : Hid (∀ w1, Cs .u8 w1 w.heap.size 0 n f → Calls Try.prog 15 #[.slice (some ⟨w.heap.size, 0, none⟩) n n, .bool lt] w1 fun e w' => e = .returned (.bool (wfU (uL (un lt f) (n / 2)))) ∧ w1 = w') :=
    fun w1 hs => (wf_any lt _ n n f w1 (by omega) hs hf.out).mono fun e w' ⟨h1, h2⟩ => ⟨h1, h2.symm⟩
  generalize dec (uL (un lt f) (n / 2)) = rs at *
  generalize wfU (uL (un lt f) (n / 2)) = wf at *
  go_enter Try.func4, Try.ntmps4
  go_wp2_with (go_at_call 10; go_in)
  refine h6.out.mono ?_
  rintro e w1 ⟨rfl, hb1, hcs⟩
  have HC := show Hid (Cs .u8 w1 w.heap.size 0 n f) from hcs
  have HB1 := show Hid (Below w.heap.size w w1) from hb1
  clear hcs hb1
  go_wp2_with fail
  refine (zz_some _ _ _ _ (h18.out _ (by exact HC.out))).mono ?_
  rintro e w2 ⟨g, cap, rfl, hcap, hcs2, hb2⟩
  have HB2 := show Hid (Below w1.heap.size w1 w2) from hb2
  have HC2 := show Hid (Cs .u8 w2 g 0 (rs.flatMap enc1).length (fun i => (rs.flatMap enc1).getD i 0)) from hcs2
  clear hb2 hcs2
  have HAS : Hid (∀ w', Below w2.heap.size w2 w' → Calls Try.prog 11 #[.slice (some ⟨g, 0, none⟩) (rs.flatMap enc1).length cap] w' fun e w3 => e = .returned (.slice (some ⟨g, 0, none⟩) (rs.flatMap enc1).length cap) ∧ Below w'.heap.size w' w3) := fun w' hb => by
    obtain ⟨l, hl⟩ := HE.out
    have hcs := HC2.out.below hb
    have c0 := hcs.2 0 (by rw [hl]; simp)
    have c1 := hcs.2 1 (by rw [hl]; simp)
    simp only [hl] at c0 c1
    exact zz_same _ _ _ _ (as_none g 0 _ cap 239 187 w' (by rw [hl]; simp) (by omega) hcap hcs.1 (by omega) (by omega) c0 c1 (by omega) (by omega))
  clear HE
  generalize hLe : (rs.flatMap enc1).length = L at *
  have HLe := show Hid _ from hLe
  clear hLe
  go_wp2_with fail
  refine (HAS.out _ (Below.refl _ _)).mono ?_
  rintro e w3 ⟨rfl, hb3⟩
  have HB3 := show Hid (Below w2.heap.size w2 w3) from hb3
  clear hb3
  go_wp2_with fail
  refine (same_bytes g 0 cap g 0 cap L _ _ (by omega) (by exact HC2.out.below HB3.out) (by exact HC2.out.below HB3.out)).mono ?_
  rintro e w4 ⟨rfl, hb4⟩
  have HB4 := show Hid (Below w2.heap.size w2 w4) from stp HB3.out hb4
  clear hb4 HB3
  go_wp2_with fail
  refine (h13.out _ (by exact HC.out.below (stp HB2.out HB4.out))).mono ?_
  rintro e w5 ⟨rfl, hb5⟩
  have HB5 := show Hid (Below w2.heap.size w2 w5) from stp HB4.out hb5
  clear hb5 HB4 HAS h18 h6 h13
  cases lt
  all_goals
    go_wp2_with fail
    refine (dec8_form g L cap rs _ HLe.out (by omega) hq0 hq HOK (by exact HC2.out.below HB5.out)).mono ?_
    rintro e w6 ⟨gr, cr, rfl, hcs6, hb6⟩
    have HB6 := show Hid (Below w2.heap.size w2 w6) from stp HB5.out hb6
    have HC6 := show Hid (Cs .u32 w6 gr 0 rs.length (fun i => rs.getD i 0)) from hcs6
    have q0 : w6.cell? ⟨gr, 0, none⟩ = some (.int .u32 65279) := by have h := HC6.out.at0 hq0; rw [HR0.out] at h; exact h
    have hl0 : (0 : Int) < (rs.length : Int) := by omega
    have hl1 : ((rs.length : Int) == 0) = false := by rw [beq_eq_false_iff_ne]; omega
    clear hcs6 hb6 HB5
    go_wp2_with fail
    refine (HWF.out _ (by exact HC.out.below (stp HB2.out HB6.out))).mono ?_
    rintro e w7 ⟨rfl, rfl⟩
    cases wf
    · go_wp2_with fail
      go_ret
      exact ⟨rfl, stp HB1.out (stp HB2.out HB6.out)⟩
    · go_wp2_with fail
      have hdiv0 : IntKind.i64.wrap ((n : Int) / 2) = (n : Int) / 2 := IntWalk.i64_in _ (by omega)
      have hdiv1 : (0 : Int) ≤ (n : Int) / 2 * 2 := by omega
      have hdiv2 : (n : Int) / 2 * 2 ≤ (n : Int) := by omega
      have hdiv : IntKind.i64.wrap ((n : Int) / 2 * 2) = (n : Int) / 2 * 2 := IntWalk.i64_in _ (by omega)
      have HC7 := show Hid (Cs .u8 w6 w.heap.size 0 n f) from HC.out.below (stp HB2.out HB6.out)
      go_region_with (first | (go_at_call 16; go_must (refine (HEB.out _ _ (by first | trivial | rfl) (by first | trivial | rfl) _ _ (by exact HC6.out)).mono ?_; rintro e w8 ⟨ge, ce, rfl, hcs8, hb8⟩; have HC8 := show Hid (Cs .u8 w8 ge 0 (n / 2 * 2) f) from hcs8; have HB8 := show Hid (Below w6.heap.size w6 w8) from ⟨hb8.os, hb8.tape, hb8.output, hb8.size, hb8.block⟩; clear hcs8 hb8)) | (go_at_call 12; go_must (refine (same_bytes ge 0 ce w.heap.size 0 n (n / 2 * 2) f _ (by omega) (by exact HC8.out) (by exact ⟨(HC7.out.below HB8.out).1, fun i hi => (HC7.out.below HB8.out).2 i (by omega)⟩)).mono ?_; rintro e w9 ⟨rfl, hb9⟩; have HB9 := show Hid (Below w6.heap.size w6 w9) from stp HB8.out hb9; clear hb9)))
      all_goals
        go_wp2_with fail
        go_ret
        exact ⟨rfl, stp HB1.out (stp HB2.out (stp HB6.out HB9.out))⟩
end Go.Proofs.Qxb6603573a.U

/-
  THE PROOF OF 'Rows.FnNotificationTypeResolveSaid'. The frame is what the guide's skeleton tool writes for these six parameters with a slice of integers in the sixth place, turned by hand to a slice of strings ('open_strings' for 'open_ints'). The callees' walks: Qxb6604389aTypes, ..Strs, ..Build; the law's own: ..Top.
-/
import Derived.Test.Qxb6604389aRows
import Derived.WalkKit
import Derived.ProofKit
import Derived.OpenShut
import Derived.ShutString
import Derived.ChangeOld
import Derived.Below
import Derived.SliceStrings
import Derived.Test.Qxb6604389aTop
namespace Go.Proofs.Qxb6604389a.fnNotificationTypeResolve
open Go.ChangeShapes Go.WideShapes Go.ChangeAt Go.RowKit
open Go.ChangeMaps (open_string shut_string)
set_option linter.unusedVariables false

theorem own : ownKnob Try.prog.godebug = none := by kernel_rfl
theorem laidOut : laidOutB Try.prog = true := by kernel_rfl

open Go.Proofs.Qxb6604389a.N

/-- WHAT THE WALK IS TOLD OF THE SLICE OF STRINGS THAT CAME IN: it is nil; or it leads to a row of 'cap' cells, the strings 'ss'. -/
def IsStrs (w : World) (a : Option Addr) (len cap : Nat) (ss : List ByteArray) : Prop :=
  (a = none ∧ len = 0 ∧ cap = 0) ∨
  ∃ x, a = some x ∧ len ≤ cap ∧ cap ≤ maxLen ∧ ss.length = cap ∧ (∀ i, i < ss.length → w.cell? (x.add i) = some (.string (ss.getD i ByteArray.empty))) ∧ ∀ s ∈ ss, s.size ≤ maxLen

theorem strs_at {w : World} {a : Addr} {ss : List ByteArray} (h : ∀ i, i < ss.length → w.cell? (a.add i) = some (.string (ss.getD i ByteArray.empty))) (hp : 0 < ss.length) :
    ∃ b off, a = ⟨b, off, none⟩ ∧ Ss w b off ss.length (fun i => ss.getD i ByteArray.empty) := by
  obtain ⟨b, off, spot⟩ := a
  have hspot : spot = none := by simpa [Addr.add] using World.cell?_spot (h 0 hp)
  subst hspot
  have hc : ∀ i, i < ss.length → w.cell? ⟨b, off + i, none⟩ = some (.string (ss.getD i ByteArray.empty)) := fun i hi => by rw [← Go.WideShapes.add_plain]; exact h i hi
  refine ⟨b, off, rfl, ?_, hc⟩
  have h0 := hc 0 hp
  rcases Nat.lt_or_ge b w.heap.size with h2 | h2
  · exact h2
  · simp [World.cell?, Array.getElem?_eq_none h2] at h0

theorem getD_size {ss : List ByteArray} (h : ∀ s ∈ ss, s.size ≤ maxLen) (i : Nat) : (ss.getD i ByteArray.empty).size ≤ 9223372036854775807 := by
  rw [List.getD_eq_getElem?_getD]
  rcases Nat.lt_or_ge i ss.length with hi | hi
  · rw [List.getElem?_eq_getElem hi, Option.getD_some]
    have := h _ (List.getElem_mem hi)
    unfold maxLen at this
    omega
  · rw [List.getElem?_eq_none hi]; simp

/-- What 'zzB1NotifBuild' does, with a content or without. -/
theorem built_any (hc : Bool) (ck : Int) (cn : ByteArray) (b n c : Nat) (S : Nat → ByteArray) (w : World) (hn : n ≤ 65536) (h : Ss w b 0 n S) :
    Calls Try.prog 7 #[.bool hc, .int .u32 ck, .string cn, .slice (some ⟨b, 0, none⟩) n c] w fun e w2 => Built ck cn w w2 e := by
  cases hc
  · exact (build_no ck cn b n c S w hn h).mono fun e w2 ⟨g, m, p, he, hb⟩ => ⟨none, g, m, p, he, hb, .inl rfl⟩
  · exact (build_yes ck cn b n c S w hn h).mono fun e w2 ⟨g, m, p, he, ht, hb⟩ => ⟨_, g, m, p, he, hb, .inr ⟨_, rfl, ht⟩⟩
theorem built_empty (hc : Bool) (ck : Int) (cn : ByteArray) (x : Addr) (c : Nat) (w : World) :
    Calls Try.prog 7 #[.bool hc, .int .u32 ck, .string cn, .slice (some x) 0 c] w fun e w2 => Built ck cn w w2 e := by
  cases hc
  · exact (build_no_empty ck cn x c w).mono fun e w2 ⟨g, m, p, he, hb⟩ => ⟨none, g, m, p, he, hb, .inl rfl⟩
  · exact (build_yes_empty ck cn x c w).mono fun e w2 ⟨g, m, p, he, ht, hb⟩ => ⟨_, g, m, p, he, hb, .inr ⟨_, rfl, ht⟩⟩
theorem built_nil (hc : Bool) (ck : Int) (cn : ByteArray) (w : World) :
    Calls Try.prog 7 #[.bool hc, .int .u32 ck, .string cn, .slice none 0 0] w fun e w2 => Built ck cn w w2 e := by
  cases hc
  · exact (build_no_nil ck cn w).mono fun e w2 ⟨g, m, p, he, hb⟩ => ⟨none, g, m, p, he, hb, .inl rfl⟩
  · exact (build_yes_nil ck cn w).mono fun e w2 ⟨g, m, p, he, ht, hb⟩ => ⟨_, g, m, p, he, hb, .inr ⟨_, rfl, ht⟩⟩

/-! ### THE WALK: the Go text returns true, and writes nothing that was there. -/
theorem walk (a0 : Int) (a1 : ByteArray) (a2 : Bool) (a3 : Int) (a4 : ByteArray) (a5 : Option Addr) (len5 cap5 : Nat) (z5 : List ByteArray) (w : World) (w0 : (Lit.int .u32 a0).wf = true) (w1 : a1.size ≤ maxLen) (w3 : (Lit.int .u32 a3).wf = true) (w4 : a4.size ≤ maxLen) (w5 : IsStrs w a5 len5 cap5 z5) :
    Calls Try.prog 3 #[.int .u32 a0, .string a1, .bool a2, .int .u32 a3, .string a4, .slice a5 len5 cap5] w fun e w' => e = .returned (.bool true) ∧ Below w.heap.size w w' := by
  unfold maxLen at w1 w4
  rcases w5 with ⟨rfl, rfl, rfl⟩ | ⟨x, rfl, hlc, hcm, hzl, hcell, hwf⟩
  · exact top a0 a1 a2 a3 a4 none 0 0 (.slice none 0 0) w (bytes_empty a0 a1 a2 a3 a4 none 0 w (by omega) (by omega)) (big_empty a1 a4 none 0 w (by omega) (by omega))
      (fun _ => (copy_nil w).mono fun e w1 ⟨he, hb⟩ => ⟨he, hb, built_nil a2 a3 a4 w1⟩)
  · by_cases h0 : len5 = 0
    · subst h0
      exact top a0 a1 a2 a3 a4 (some x) 0 cap5 (.slice (some ⟨w.heap.size, 0, none⟩) 0 0) w (bytes_empty a0 a1 a2 a3 a4 (some x) cap5 w (by omega) (by omega)) (big_empty a1 a4 (some x) cap5 w (by omega) (by omega))
        (fun _ => (copy_empty x cap5 w).mono fun e w1 ⟨he, hb⟩ => ⟨he, hb, built_empty a2 a3 a4 _ 0 w1⟩)
    · obtain ⟨b, off, rfl, hs⟩ := strs_at hcell (by omega)
      have hs5 : Ss w b off len5 (fun i => z5.getD i ByteArray.empty) := ⟨hs.1, fun i hi => hs.2 i (by omega)⟩
      unfold maxLen at hcm
      exact top a0 a1 a2 a3 a4 _ len5 cap5 (.slice (some ⟨w.heap.size, 0, none⟩) len5 len5) w
        (bytes_any a0 a1 a2 a3 a4 b off len5 cap5 _ w (by omega) (by omega) (by omega) (getD_size hwf) hs5)
        (big_any a1 a4 b off len5 cap5 _ w (by omega) (by omega) (by omega) hs5)
        (fun hn => (copy_any b off len5 cap5 _ w hn hs5).mono fun e w1 ⟨he, hb, hs1⟩ => ⟨he, hb, built_any a2 a3 a4 _ len5 len5 _ w1 hn hs1⟩)

/-! ### THE ROW's STEP: WRITTEN OUT: LEAVE IT -/
set_option maxRecDepth 100000 in
theorem lifted (os : Os) (started : os.Started) (H : Type) (enc : TypeId × Value → H) :
    ReturnsInHanded {} Try.checked os 3 .any (Rows.fnNotificationTypeResolveSpec.pre6 enc Try.prog Try.f3 Rows.fnNotificationTypeResolveRow.domain false) (Rows.fnNotificationTypeResolveSpec.post enc Try.prog Try.f3 false true false false) := by
  refine returnsInHanded_of_change (C := Try.checked) own started (by kernel_rfl) Try.func3
    (ChangeSpec.witness6 (enc := enc) (C := Try.checked) false ⟨#[], #[.int .u32 0, .string ByteArray.empty, .bool false, .int .u32 0, .string ByteArray.empty, .slice none 0 0], []⟩ 8 (by kernel_rfl) (by kernel_rfl) (by kernel_rfl) (by kernel_rfl)) ?_
  intro W base args ds gs before hval0 hW hcnd _
  have hval : ∀ (j : Nat) t v, Try.f3.params[j]? = some t → args[j]? = some v → Value.okWide Try.prog W .any base t v := hval0
  have hW' := hW
  obtain ⟨p, q, hA0, hV, rfl, hfz, hnd⟩ := hW
  have hA : DataW.TrodAll enc Try.prog W 0 (fun _ => true) true Try.f3.params.toList args.toList ds p := hA0
  rw [Try.params3] at hA hval
  obtain ⟨v0, vs0, d0, ds0, p0, q0, hargs, rfl, rfl, h0, r0⟩ := trodAll_cons hA
  obtain ⟨v1, vs1, d1, ds1, p1, q1, rfl, rfl, rfl, h1, r1⟩ := trodAll_cons r0
  obtain ⟨v2, vs2, d2, ds2, p2, q2, rfl, rfl, rfl, h2, r2⟩ := trodAll_cons r1
  obtain ⟨v3, vs3, d3, ds3, p3, q3, rfl, rfl, rfl, h3, r3⟩ := trodAll_cons r2
  obtain ⟨v4, vs4, d4, ds4, p4, q4, rfl, rfl, rfl, h4, r4⟩ := trodAll_cons r3
  obtain ⟨v5, vs5, d5, ds5, p5, q5, rfl, rfl, rfl, h5, r5⟩ := trodAll_cons r4
  obtain ⟨rfl, rfl, rfl⟩ := trodAll_nil r5
  obtain rfl : args = #[v0, v1, v2, v3, v4, v5] := by cases args; simp_all
  obtain ⟨rfl, rfl⟩ := trodVars_none hV
  obtain ⟨a0, rfl, rfl, rfl, w0⟩ := open_int Try.underlying22 (hval 0 22 v0 rfl rfl) h0
  obtain ⟨a1, rfl, rfl, rfl, w1⟩ := open_string Try.underlying9 (hval 1 9 v1 rfl rfl) h1
  obtain ⟨a2, rfl, rfl, rfl⟩ := open_bool Try.underlying4 (hval 2 4 v2 rfl rfl) h2
  obtain ⟨a3, rfl, rfl, rfl, w3⟩ := open_int Try.underlying22 (hval 3 22 v3 rfl rfl) h3
  obtain ⟨a4, rfl, rfl, rfl, w4⟩ := open_string Try.underlying9 (hval 4 9 v4 rfl rfl) h4
  obtain ⟨a5, len5, cap5, rfl⟩ := okWide_slice Try.underlying23 (hval 5 23 v5 rfl rfl)
  have k5 := h5
  have lt5 : ∀ x ∈ p5, x.block < W.heap.size := by obtain ⟨m, hm⟩ := k5; exact DataW.trod_lt m _ _ _ hm
  obtain ⟨z5, w5⟩ : ∃ zs, IsStrs W a5 len5 cap5 zs := by
    obtain ⟨fuel, hf⟩ := h5
    rcases open_strings Try.underlying23 Try.underlying9 (by kernel_rfl) hf with ⟨hcs, _⟩ | ⟨x, l, c, zs, hcs, _, hl, hm, hz, _, hcell, hwz⟩
    · simp [Value.cells] at hcs
      obtain ⟨rfl, rfl, rfl⟩ := hcs
      exact ⟨[], .inl ⟨rfl, rfl, rfl⟩⟩
    · simp [Value.cells] at hcs
      obtain ⟨rfl, rfl, rfl⟩ := hcs
      exact ⟨zs, .inr ⟨_, rfl, hl, hm, by simpa using hz, hcell, hwz⟩⟩
  clear hA0 hval0
  refine (walk a0 a1 a2 a3 a4 a5 len5 cap5 z5 W w0 w1 w3 w4 w5).mono fun e W' ⟨he, bel⟩ => ?_
  subst he
  exact ⟨_, rfl, _, _, _, [], _, [], hW', trodAll_mk1 (shut_bool Try.underlying4 _), (trodAll_cons_mk (shut_int Try.underlying22 w0) (trodAll_cons_mk (shut_string Try.underlying9 w1) (trodAll_cons_mk (shut_bool Try.underlying4 _) (trodAll_cons_mk (shut_int Try.underlying22 w3) (trodAll_cons_mk (shut_string Try.underlying9 w4) (trodAll_cons_mk (Below.trod laidOut (by kernel_rfl) (of_decide_eq_true (by kernel_rfl)) k5 bel lt5) trodAll_mk0)))))), rfl, bel.frame _, fun h => by cases h⟩

theorem over : Rows.fnNotificationTypeResolveRow.holds Try.pinned (OpenSpec.ofChange Rows.fnNotificationTypeResolveSpec) :=
  OpenClaim.holds_of_wide 3 Try.f3 rfl rfl rfl rfl rfl rfl rfl ⟨rfl, rfl, rfl, rfl, rfl⟩ rfl rfl rfl rfl rfl (by kernel_rfl) Try.func3 (by kernel_rfl)
    (of_decide_eq_true (by kernel_rfl)) (by unfold Func.isWrapper; first | (rw [if_pos (by decide +kernel)]; kernel_rfl) | (rw [if_neg (by decide +kernel)]; exact ⟨rfl, rfl⟩))
    (fun os started H enc _ => lifted os started H enc)

/-- ████ THE STATEMENT ████ -/
theorem proved : Rows.FnNotificationTypeResolveSaid := over
end Go.Proofs.Qxb6604389a.fnNotificationTypeResolve

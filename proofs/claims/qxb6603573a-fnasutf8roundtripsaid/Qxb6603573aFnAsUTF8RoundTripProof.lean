/-
  THE PROOF OF 'Rows.FnAsUTF8RoundTripSaid': the frame is the shell's that lay beside the statement; the walk is filled in. The plain law: Qxb6603573aPlain, ..TopParts; the callees' walks: ..Base, ..Small, ..Clone, ..Push, ..Decode, ..As, ..Wf, ..Enc, ..Dec8; the law's own: ..Top.
-/
import Derived.Test.Qxb6603573aRows
import Derived.WalkKit
import Derived.ProofKit
import Derived.OpenShut
import Derived.ShutString
import Derived.ChangeOld
import Derived.Below
import Derived.Test.Qxb6603573aTop
namespace Go.Proofs.Qxb6603573a.fnAsUTF8RoundTrip
open Go.ChangeShapes Go.WideShapes Go.ChangeAt Go.RowKit
open Go.ChangeMaps (open_string shut_string)
set_option linter.unusedVariables false

theorem own : ownKnob Try.prog.godebug = none := by kernel_rfl
theorem laidOut : laidOutB Try.prog = true := by kernel_rfl

/-- WHAT THE WALK IS TOLD OF A SLICE OF INTEGERS THAT CAME IN: it is nil; or it leads to a row of 'cap' cells, the numbers 'zs' (the first 'len' are its elements, the rest its spare room), each fitting its kind. -/
def IsRow (k : IntKind) (w : World) (a : Option Addr) (len cap : Nat) (zs : List Int) : Prop :=
  (a = none ∧ len = 0 ∧ cap = 0 ∧ zs = []) ∨
  ∃ x, a = some x ∧ len ≤ cap ∧ cap ≤ maxLen ∧ zs.length = cap ∧ (∀ i, i < zs.length → w.cell? (x.add i) = some (.int k (zs.getD i 0))) ∧ ∀ n ∈ zs, (Lit.int k n).wf = true

open Go.Proofs.Qxb6603573a.U

theorem bd_of {z : List Int} (h : ∀ n ∈ z, (Lit.int .u8 n).wf = true) : Bd (fun i => z.getD i 0) := by
  intro i
  show 0 ≤ z.getD i 0 ∧ z.getD i 0 ≤ 255
  rw [List.getD_eq_getElem?_getD]
  rcases Nat.lt_or_ge i z.length with hi | hi
  · rw [List.getElem?_eq_getElem hi, Option.getD_some]
    have := bounds_u8 (h _ (List.getElem_mem hi))
    omega
  · rw [List.getElem?_eq_none hi]; simp

theorem stays_short (a : Option Addr) (w1 : World) : Stays (.slice a 0 0) w1 := fun w' _ =>
  ⟨zz_same _ _ _ _ (as_short a 0 0 w' (by omega)), same_empty a a 0 0 w', mark_short a 0 0 w' (by omega)⟩

theorem stays_one (b : Nat) (f : Nat → Int) (w1 : World) (h : Cs .u8 w1 b 0 1 f) : Stays (.slice (some ⟨b, 0, none⟩) 1 1) w1 := fun w' hb =>
  ⟨zz_same _ _ _ _ (as_short _ 1 1 w' (by omega)), same_bytes b 0 1 b 0 1 1 f w' (by omega) (h.below hb) (h.below hb), mark_short _ 1 1 w' (by omega)⟩

theorem stays_none (b n : Nat) (f : Nat → Int) (w1 : World) (hn : 2 ≤ n) (hn9 : n ≤ 1048576) (hf : Bd f) (h : Cs .u8 w1 b 0 n f) (nl : ¬ (f 0 = 255 ∧ f 1 = 254)) (nb : ¬ (f 0 = 254 ∧ f 1 = 255)) :
    Stays (.slice (some ⟨b, 0, none⟩) n n) w1 := fun w' hb => by
  have h' := h.below hb
  exact ⟨zz_same _ _ _ _ (as_none b 0 n n (f 0) (f 1) w' hn (by omega) (Nat.le_refl _) h'.1 (hf 0) (hf 1) (h'.2 0 (by omega)) (h'.2 1 (by omega)) nl nb),
    same_bytes b 0 n b 0 n n f w' (by omega) h' h', mark_none b 0 n n (f 0) (f 1) w' hn (h'.2 0 (by omega)) (h'.2 1 (by omega)) nl nb⟩

/-! ### STEP 1: THE WALK: the Go text returns true, AND WRITES NOTHING THAT WAS THERE: 'Below w.heap.size w w'' (Derived/Below.lean: '.refl', '.alloc', '.drew', '.setCell' at a new block, '.trans'). Open each 'IsRow' by 'rcases' AHEAD of 'go_enter'; part every test ahead of the walk. -/
theorem walk (a0 : Option Addr) (len0 cap0 : Nat) (z0 : List Int) (w : World) (w0 : IsRow .u8 w a0 len0 cap0 z0) :
    Calls Try.prog 4 #[.slice a0 len0 cap0] w fun e w' => e = .returned (.bool true) ∧ Below w.heap.size w w' := by
  by_cases hl : (1048576 : Int) < (len0 : Int)
  · clear w0
    go_enter Try.func4, Try.ntmps4
    go_wp2
    go_ret
    exact ⟨rfl, Below.refl _ _⟩
  · rcases w0 with ⟨rfl, rfl, rfl, rfl⟩ | ⟨x, rfl, hlc, hcm, hzl, hcell, hwf⟩
    · exact top_plain none 0 0 (.slice none 0 0) w hl ((clone_nil w).mono fun e w1 ⟨he, hb⟩ => ⟨he, hb, stays_short _ _⟩)
    · by_cases h0 : len0 = 0
      · subst h0
        exact top_plain (some x) 0 cap0 (.slice (some ⟨w.heap.size, 0, none⟩) 0 0) w hl ((clone_empty x cap0 w).mono fun e w1 ⟨he, hb⟩ => ⟨he, hb, stays_short _ _⟩)
      · obtain ⟨b, off, rfl, hc⟩ := ints_at hcell (by omega)
        have hf := bd_of hwf
        have hlt : b < w.heap.size := by
          have h := hc 0 (by omega)
          rcases Nat.lt_or_ge b w.heap.size with h2 | h2
          · exact h2
          · simp [World.cell?, Array.getElem?_eq_none h2] at h
        have hs : Cs .u8 w b off len0 (fun i => z0.getD i 0) := ⟨hlt, fun i hi => hc i (by omega)⟩
        have hcl := clone_any b off len0 cap0 _ w (by omega) (by omega) hs
        by_cases h1 : len0 = 1
        · subst h1
          exact top_plain _ 1 cap0 (.slice (some ⟨w.heap.size, 0, none⟩) 1 1) w hl (hcl.mono fun e w1 ⟨he, hb, hcs⟩ => ⟨he, hb, stays_one _ _ _ hcs⟩)
        · by_cases hL : z0.getD 0 0 = 255 ∧ z0.getD 1 0 = 254
          · refine top_marked true _ len0 cap0 (fun i => z0.getD i 0) w (by omega) hl hf (by show z0.getD 0 0 + z0.getD 1 0 * 256 = 65279; omega) hcl ?_ ?_
            · exact fun w1 h => as_little _ len0 len0 _ w1 (by omega) (by omega) (Nat.le_refl _) h hf hL.1 hL.2
            · exact fun w1 h => mark_little _ 0 len0 len0 w1 (by omega) (by have := h.2 0 (by omega); simp only [hL.1] at this; exact this) (by have := h.2 1 (by omega); simp only [hL.2] at this; exact this)
          · by_cases hB : z0.getD 0 0 = 254 ∧ z0.getD 1 0 = 255
            · refine top_marked false _ len0 cap0 (fun i => z0.getD i 0) w (by omega) hl hf (by show z0.getD 0 0 * 256 + z0.getD 1 0 = 65279; omega) hcl ?_ ?_
              · exact fun w1 h => as_big _ len0 len0 _ w1 (by omega) (by omega) (Nat.le_refl _) h hf hB.1 hB.2
              · exact fun w1 h => mark_big _ 0 len0 len0 w1 (by omega) (by have := h.2 0 (by omega); simp only [hB.1] at this; exact this) (by have := h.2 1 (by omega); simp only [hB.2] at this; exact this)
            · exact top_plain _ len0 cap0 (.slice (some ⟨w.heap.size, 0, none⟩) len0 len0) w hl (hcl.mono fun e w1 ⟨he, hb, hcs⟩ => ⟨he, hb, stays_none _ _ _ _ (by omega) (by omega) hf hcs hL hB⟩)

/-! ### THE ROW's STEP: WRITTEN OUT: LEAVE IT -/
set_option maxRecDepth 100000 in
theorem lifted (os : Os) (started : os.Started) (H : Type) (enc : TypeId × Value → H) :
    ReturnsInHanded {} Try.checked os 4 .any (Rows.fnAsUTF8RoundTripSpec.pre6 enc Try.prog Try.f4 Rows.fnAsUTF8RoundTripRow.domain false) (Rows.fnAsUTF8RoundTripSpec.post enc Try.prog Try.f4 false true false false) := by
  refine returnsInHanded_of_change (C := Try.checked) own started (by kernel_rfl) Try.func4
    (ChangeSpec.witness6 (enc := enc) (C := Try.checked) false ⟨#[], #[.slice none 0 0], []⟩ 8 (by kernel_rfl) (by kernel_rfl) (by kernel_rfl) (by kernel_rfl)) ?_
  intro W base args ds gs before hval0 hW hcnd _
  have hval : ∀ (j : Nat) t v, Try.f4.params[j]? = some t → args[j]? = some v → Value.okWide Try.prog W .any base t v := hval0
  have hW' := hW
  obtain ⟨p, q, hA0, hV, rfl, hfz, hnd⟩ := hW
  have hA : DataW.TrodAll enc Try.prog W 0 (fun _ => true) true Try.f4.params.toList args.toList ds p := hA0
  rw [Try.params4] at hA hval
  obtain ⟨v0, vs0, d0, ds0, p0, q0, hargs, rfl, rfl, h0, r0⟩ := trodAll_cons hA
  obtain ⟨rfl, rfl, rfl⟩ := trodAll_nil r0
  obtain rfl : args = #[v0] := by cases args; simp_all
  obtain ⟨rfl, rfl⟩ := trodVars_none hV
  obtain ⟨a0, len0, cap0, rfl⟩ := okWide_slice Try.underlying22 (hval 0 22 v0 rfl rfl)
  have k0 := h0
  have lt0 : ∀ x ∈ p0, x.block < W.heap.size := by obtain ⟨m, hm⟩ := k0; exact DataW.trod_lt m _ _ _ hm
  obtain ⟨z0, w0⟩ : ∃ zs, IsRow .u8 W a0 len0 cap0 zs := by
    obtain ⟨fuel, hf⟩ := h0
    rcases open_ints Try.underlying22 Try.underlying5 (by kernel_rfl) hf with ⟨hcs, _⟩ | ⟨x, l, c, zs, hcs, _, hl, hm, hz, _, hcell, hwz⟩
    · simp [Value.cells] at hcs
      obtain ⟨rfl, rfl, rfl⟩ := hcs
      exact ⟨[], .inl ⟨rfl, rfl, rfl, rfl⟩⟩
    · simp [Value.cells] at hcs
      obtain ⟨rfl, rfl, rfl⟩ := hcs
      exact ⟨zs, .inr ⟨_, rfl, hl, hm, by simpa using hz, hcell, hwz⟩⟩
  clear hA0 hval0
  refine (walk a0 len0 cap0 z0 W w0).mono fun e W' ⟨he, bel⟩ => ?_
  subst he
  exact ⟨_, rfl, _, _, _, [], _, [], hW', trodAll_mk1 (shut_bool Try.underlying4 _), (trodAll_cons_mk (Below.trod laidOut (by kernel_rfl) (of_decide_eq_true (by kernel_rfl)) k0 bel lt0) trodAll_mk0), rfl, bel.frame _, fun h => by cases h⟩

theorem over : Rows.fnAsUTF8RoundTripRow.holds Try.pinned (OpenSpec.ofChange Rows.fnAsUTF8RoundTripSpec) :=
  OpenClaim.holds_of_wide 4 Try.f4 rfl rfl rfl rfl rfl rfl rfl ⟨rfl, rfl, rfl, rfl, rfl⟩ rfl rfl rfl rfl rfl (by kernel_rfl) Try.func4 (by kernel_rfl)
    (of_decide_eq_true (by kernel_rfl)) (by unfold Func.isWrapper; first | (rw [if_pos (by decide +kernel)]; kernel_rfl) | (rw [if_neg (by decide +kernel)]; exact ⟨rfl, rfl⟩))
    (fun os started H enc _ => lifted os started H enc)

/-- ████ THE STATEMENT ████ -/
theorem proved : Rows.FnAsUTF8RoundTripSaid := over
end Go.Proofs.Qxb6603573a.fnAsUTF8RoundTrip

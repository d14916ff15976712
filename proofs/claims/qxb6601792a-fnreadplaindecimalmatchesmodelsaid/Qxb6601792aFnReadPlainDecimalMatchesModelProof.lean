/-
  THE PROOF OF 'Rows.FnReadPlainDecimalMatchesModelSaid': the frame is the shell's that lay beside the statement; the walk is filled in. The plain law: Qxb6601792aPlain; the callees' walks: ..Cut, ..Reader, ..ZZ, ..Model.
-/
import Derived.Test.Qxb6601792aRows
import Derived.WalkKit
import Derived.ProofKit
import Derived.OpenShut
import Derived.ShutString
import Derived.Test.Qxb6601792aZZ
import Derived.Test.Qxb6601792aModel
namespace Go.Proofs.Qxb6601792a.fnReadPlainDecimalMatchesModel
open Go.ChangeShapes Go.WideShapes Go.ChangeAt Go.RowKit
open Go.ChangeMaps (open_string shut_string)
set_option linter.unusedVariables false      -- a walk need not use every 'w<i>' (that an integer argument fits its kind)

theorem own : ownKnob Try.prog.godebug = none := by kernel_rfl

open Go.Proofs.Qxb6601792a.Pd

/-- Both callees answer alike: the law says true. -/
theorem top (a : ByteArray) (n : Bool) (u p : Int) (f o : Bool) (w : World) (ha : ¬ (1048576 : Int) < (a.size : Int))
    (h7 : Hid (∀ w, Calls Try.prog 7 #[.string a] w fun e w' => e = .returned (.tuple #[.bool n, .int .u64 u, .int .i32 p, .bool f, .bool o]) ∧ Grown w w'))
    (h8 : Hid (∀ w, Calls Try.prog 8 #[.string a] w fun e w' => e = .returned (.tuple #[.bool n, .int .u64 u, .int .i32 p, .bool f, .bool o]) ∧ w' = w)) :
    Calls Try.prog 3 #[.string a] w fun e w' => e = .returned (.bool true) ∧ Grown w w' := by
  go_enter Try.func3, Try.ntmps3
  go_wp2_with (first | (go_at_call 6; go_in) | (go_at_call 7; refine (h7.out _).mono ?_; rintro e w1 ⟨rfl, hg⟩) | (go_at_call 8; refine (h8.out _).mono ?_; rintro e w2 ⟨rfl, rfl⟩))
  go_ret
  exact ⟨rfl, hg⟩

/-! ### STEP 1: THE WALK: the Go text returns true. 'Grown w w'': the world has at most new blocks (Derived/RowKit3.lean). Part the cases AHEAD of 'go_enter' where a test parts the walk; take each callee by a contract of your own. -/
theorem walk (a0 : ByteArray) (w0 : a0.size ≤ maxLen) (w : World) :
    Calls Try.prog 3 #[.string a0] w fun e w' => e = .returned (.bool true) ∧ Grown w w' := by
  unfold maxLen at w0
  by_cases hl : (1048576 : Int) < (a0.size : Int)
  · go_enter Try.func3, Try.ntmps3
    go_wp2
    go_ret
    exact ⟨rfl, by repeat (first | exact Grown.refl _ | apply Grown.drew | apply Grown.alloc)⟩
  · have ha : a0.size ≤ 1048576 := by omega
    by_cases h0 : 0 < a0.size
    · cases h : (((a0[0]'h0).toNat : Int) == 45) with
      | false =>
        refine top a0 _ _ _ _ _ w hl (fun w => zzread a0 (rdAns false (bs a0)) w (fun w => reader a0 a0 false w ha (fun w => cut_no a0 w ha h0 h))) (fun w => ?_)
        rw [agree]
        exact model_plain a0 w ha (.inr ⟨h0, h⟩)
      | true =>
        have hs : (a0.extract 1 a0.size).size ≤ 1048576 := by simp; omega
        refine top a0 _ _ _ _ _ w hl (fun w => zzread a0 (rdAns true (bs (a0.extract 1 a0.size))) w (fun w => reader a0 (a0.extract 1 a0.size) true w hs (fun w => cut_yes a0 w ha h0 h))) (fun w => ?_)
        rw [agree]
        exact model_neg a0 _ w ha h0 h rfl hs
    · refine top a0 _ _ _ _ _ w hl (fun w => zzread a0 (rdAns false (bs a0)) w (fun w => reader a0 a0 false w ha (fun w => cut_empty a0 w (by omega)))) (fun w => ?_)
      rw [agree]
      exact model_plain a0 w ha (.inl (by omega))

/-! ### THE ROW's STEP: WRITTEN OUT: LEAVE IT -/
set_option maxRecDepth 100000 in
theorem lifted (os : Os) (started : os.Started) (H : Type) (enc : TypeId × Value → H) :
    ReturnsInHanded {} Try.checked os 3 .any (Rows.fnReadPlainDecimalMatchesModelSpec.pre6 enc Try.prog Try.f3 Rows.fnReadPlainDecimalMatchesModelRow.domain false) (Rows.fnReadPlainDecimalMatchesModelSpec.post enc Try.prog Try.f3 false true false false) := by
  refine returnsInHanded_of_change (C := Try.checked) own started (by kernel_rfl) Try.func3
    (ChangeSpec.witness6 (enc := enc) (C := Try.checked) false ⟨#[], #[.string ByteArray.empty], []⟩ 8 (by kernel_rfl) (by kernel_rfl) (by kernel_rfl) (by kernel_rfl)) ?_
  intro W base args ds gs before hval0 hW hcnd _
  have hval : ∀ (j : Nat) t v, Try.f3.params[j]? = some t → args[j]? = some v → Value.okWide Try.prog W .any base t v := hval0
  have hW' := hW
  obtain ⟨p, q, hA0, hV, rfl, hfz, hnd⟩ := hW
  have hA : DataW.TrodAll enc Try.prog W 0 (fun _ => true) true Try.f3.params.toList args.toList ds p := hA0
  rw [Try.params3] at hA hval
  obtain ⟨v0, vs0, d0, ds0, p0, q0, hargs, rfl, rfl, h0, r0⟩ := trodAll_cons hA
  obtain ⟨rfl, rfl, rfl⟩ := trodAll_nil r0
  obtain rfl : args = #[v0] := by cases args; simp_all
  obtain ⟨rfl, rfl⟩ := trodVars_none hV
  obtain ⟨a0, rfl, rfl, rfl, w0⟩ := open_string Try.underlying9 (hval 0 9 v0 rfl rfl) h0
  clear hA0 hval0
  simp only [List.append_nil] at hW'
  refine (walk a0 w0 W).mono fun e W' ⟨he, hg⟩ => ?_
  subst he
  exact ⟨_, rfl, post_of_same (pa := []) (pv := []) hW' (fun _ _ _ => (trodAll_cons_mk (shut_bool Try.underlying4 _) trodAll_mk0)) (fun sp _ => (trodAll_cons_mk (shut_string Try.underlying9 w0) trodAll_mk0)) (fun _ _ => rfl) rfl
    (hg.frame _) hg.2.1 (ok_one (by kernel_rfl) rfl (okWide_bool_mk Try.underlying4 _))⟩

theorem over : Rows.fnReadPlainDecimalMatchesModelRow.holds Try.pinned (OpenSpec.ofChange Rows.fnReadPlainDecimalMatchesModelSpec) :=
  OpenClaim.holds_of_wide 3 Try.f3 rfl rfl rfl rfl rfl rfl rfl ⟨rfl, rfl, rfl, rfl, rfl⟩ rfl rfl rfl rfl rfl (by kernel_rfl) Try.func3 (by kernel_rfl)
    (of_decide_eq_true (by kernel_rfl)) (by unfold Func.isWrapper; first | (rw [if_pos (by decide +kernel)]; kernel_rfl) | (rw [if_neg (by decide +kernel)]; exact ⟨rfl, rfl⟩))
    (fun os started H enc _ => lifted os started H enc)

/-- ████ THE STATEMENT ████ -/
theorem proved : Rows.FnReadPlainDecimalMatchesModelSaid :=
  over
end Go.Proofs.Qxb6601792a.fnReadPlainDecimalMatchesModel

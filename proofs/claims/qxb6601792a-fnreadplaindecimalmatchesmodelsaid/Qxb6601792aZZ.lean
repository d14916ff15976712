import Derived.Test.Qxb6601792aReader
import Derived.Deep.QuietTactic
import Derived.BigQuiet
namespace Go.Proofs.Qxb6601792a.Pd
open Go.RowKit

theorem grown_drewN {W w' : World} (h : Grown W w') (n : Nat) : Grown W (w'.drewN n) := h

set_option maxHeartbeats 1000000 in
theorem zzread (a : ByteArray) (A : Ans) (w : World)
    (hr : Hid (∀ w, Calls Try.prog 12 #[.string a] w fun e w' =>
      e = .returned (.tuple #[.agg #[.bool A.neg, .int .u64 A.un, .int .i32 A.pl, .bool A.fits], .bool A.ok]) ∧ Grown w w')) :
    Calls Try.prog 7 #[.string a] w fun e w' =>
      e = .returned (.tuple #[.bool A.neg, .int .u64 A.un, .int .i32 A.pl, .bool A.fits, .bool A.ok]) ∧ Grown w w' := by
  go_enter Try.func7, Try.ntmps7
  go_wp2_with (go_at_call 12; refine (hr.out _).mono ?_; rintro e w1 ⟨rfl, hg⟩)
  go_quiet (fail)
  go_wp2
  exact bodyPost_ret (v := .tuple #[.bool A.neg, .int .u64 A.un, .int .i32 A.pl, .bool A.fits, .bool A.ok]) (by simp [results, Try.results7, go_sem]) rfl ⟨rfl, grown_drewN (hg.alloc _ _) _⟩
end Go.Proofs.Qxb6601792a.Pd

/-
  No cell of these rows narrows 'for every input' (looked for: loops, veiled, ifaces, maps, wideKeys, modest, calm, conditions, laid).
  DERIVED. THE GIVEN ROWS OF THIS SEAT. 1 by the template 'for every input the law returns true; each argument reads behind the call as it read before'; 0 by the template 'total and deterministic' (their statements: Qxb6603660aTotals.lean).
  GIVEN WITH THE SEED: the statements are not yours to turn. If you find one false, say at which input.
  Laid BY PROGRAM, IN A SANDBOX (cutbox-rows.mjs): the forced cells as the released guide's own fill.sh prints them over the translation e8778c0a06fd9c6c… (all of the seat's roots in one cut). By AI agents, Wed Nov 11 2026. No macro, syntax, notation, axiom, sorry.
-/
import Derived.Test.Qxb6603660aChecked
import GoSem.Claim
import GoSem.ClaimJoined
import GoSem.ClaimMapViews
import Derived.JoinedTies
import Derived.KernelRfl
namespace Go.Proofs.Qxb6603660a
/- THE CELL 'sum', in the pinned program and in every row, IS THE sha256 OF THE DUMP (.gsa) THAT Qxb6603660aProg.lean LOADS. Nothing in Lean hashes anything: it is a label: what it is worth is what the hold of that sum in a sandbox is worth. -/
noncomputable def Try.pinned : Pinned := { name := "qxb6603660a", sum := "e8778c0a06fd9c6c23eff952a4133154de0ed2389592a8b8543f6f6f5eaafe58", checked := Try.checked }
namespace Rows
def none {H : Type} : Left H := { results := [], args := [] }

/-- 'zzlaws_ect_b1.FnAddressOfGivesFreshCopies': WHATEVER THE INPUT: true; the input reads as it did. -/
def fnAddressOfGivesFreshCopiesSpec : ChangeSpec := { name := "fnAddressOfGivesFreshCopies", fn := fun _ => fun
  | [d] => { results := [.lit (.bool true)], args := [d] }
  | _ => none }
def fnAddressOfGivesFreshCopiesRow : OpenClaim := { program := "qxb6603660a", sum := "e8778c0a06fd9c6c23eff952a4133154de0ed2389592a8b8543f6f6f5eaafe58", func := "example.com/wrangle-evidence/wrangle-evidence/zzlaws_ect_b1.FnAddressOfGivesFreshCopies", spec := "fnAddressOfGivesFreshCopies", apart := false }
def FnAddressOfGivesFreshCopiesSaid : Prop := fnAddressOfGivesFreshCopiesRow.holds Try.pinned (OpenSpec.ofChange fnAddressOfGivesFreshCopiesSpec)

/-- ITS FALSE NEIGHBOUR: 'it returns false'. Refute it at one input. -/
def fnAddressOfGivesFreshCopiesWrong : ChangeSpec := { name := "fnAddressOfGivesFreshCopies", fn := fun _ => fun
  | [d] => { results := [.lit (.bool false)], args := [d] }
  | _ => none }
def FnAddressOfGivesFreshCopiesWrongFalsely : Prop := fnAddressOfGivesFreshCopiesRow.holds Try.pinned (OpenSpec.ofChange fnAddressOfGivesFreshCopiesWrong)

end Rows
end Go.Proofs.Qxb6603660a

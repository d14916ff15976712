/-
  No cell of these rows narrows 'for every input' (looked for: loops, veiled, ifaces, maps, wideKeys, modest, calm, conditions, laid).
  DERIVED. THE GIVEN ROWS OF THIS SEAT. 1 by the template 'for every input the law returns true; each argument reads behind the call as it read before'; 0 by the template 'total and deterministic' (their statements: Qxb6604389aTotals.lean).
  GIVEN WITH THE SEED: the statements are not yours to turn. If you find one false, say at which input.
  Laid BY PROGRAM, IN A SANDBOX (cutbox-rows.mjs): the forced cells as the released guide's own fill.sh prints them over the translation 7dc4eff92ed9cbd1… (all of the seat's roots in one cut). By AI agents, Wed Nov 11 2026. No macro, syntax, notation, axiom, sorry.
-/
import Derived.Test.Qxb6604389aChecked
import GoSem.Claim
import GoSem.ClaimJoined
import GoSem.ClaimMapViews
import Derived.JoinedTies
import Derived.KernelRfl
namespace Go.Proofs.Qxb6604389a
/- THE CELL 'sum', in the pinned program and in every row, IS THE sha256 OF THE DUMP (.gsa) THAT Qxb6604389aProg.lean LOADS. Nothing in Lean hashes anything: it is a label: what it is worth is what the hold of that sum in a sandbox is worth. -/
noncomputable def Try.pinned : Pinned := { name := "qxb6604389a", sum := "7dc4eff92ed9cbd19dfe9cb9eaf13b395bb40738eb4990d5eff96928318bf3d6", checked := Try.checked }
namespace Rows
def none {H : Type} : Left H := { results := [], args := [] }

/-- 'zzlaws_notify_b1.FnNotificationTypeResolve': WHATEVER THE INPUT: true; the input reads as it did. -/
def fnNotificationTypeResolveSpec : ChangeSpec := { name := "fnNotificationTypeResolve", fn := fun _ => fun
  | [d1, d2, d3, d4, d5, d6] => { results := [.lit (.bool true)], args := [d1, d2, d3, d4, d5, d6] }
  | _ => none }
def fnNotificationTypeResolveRow : OpenClaim := { program := "qxb6604389a", sum := "7dc4eff92ed9cbd19dfe9cb9eaf13b395bb40738eb4990d5eff96928318bf3d6", func := "example.com/orbweaver/orbweaver/zzlaws_notify_b1.FnNotificationTypeResolve", spec := "fnNotificationTypeResolve", apart := false }
def FnNotificationTypeResolveSaid : Prop := fnNotificationTypeResolveRow.holds Try.pinned (OpenSpec.ofChange fnNotificationTypeResolveSpec)

/-- ITS FALSE NEIGHBOUR: 'it returns false'. Refute it at one input. -/
def fnNotificationTypeResolveWrong : ChangeSpec := { name := "fnNotificationTypeResolve", fn := fun _ => fun
  | [d1, d2, d3, d4, d5, d6] => { results := [.lit (.bool false)], args := [d1, d2, d3, d4, d5, d6] }
  | _ => none }
def FnNotificationTypeResolveWrongFalsely : Prop := fnNotificationTypeResolveRow.holds Try.pinned (OpenSpec.ofChange fnNotificationTypeResolveWrong)

end Rows
end Go.Proofs.Qxb6604389a

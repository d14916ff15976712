/-
  No cell of these rows narrows 'for every input' (looked for: loops, veiled, ifaces, maps, wideKeys, modest, calm, conditions, laid).
  DERIVED. THE GIVEN ROWS OF THIS SEAT. 2 by the template 'for every input the law returns true; each argument reads behind the call as it read before'; 0 by the template 'total and deterministic' (their statements: Qxb6603573aTotals.lean).
  GIVEN WITH THE SEED: the statements are not yours to turn. If you find one false, say at which input.
  Laid BY PROGRAM, IN A SANDBOX (cutbox-rows.mjs): the forced cells as the released guide's own fill.sh prints them over the translation 240e70d50b2f3b80… (all of the seat's roots in one cut). By AI agents, Wed Nov 11 2026. No macro, syntax, notation, axiom, sorry.
-/
import Derived.Test.Qxb6603573aChecked
import GoSem.Claim
import GoSem.ClaimJoined
import GoSem.ClaimMapViews
import Derived.JoinedTies
import Derived.KernelRfl
namespace Go.Proofs.Qxb6603573a
/- THE CELL 'sum', in the pinned program and in every row, IS THE sha256 OF THE DUMP (.gsa) THAT Qxb6603573aProg.lean LOADS. Nothing in Lean hashes anything: it is a label: what it is worth is what the hold of that sum in a sandbox is worth. -/
noncomputable def Try.pinned : Pinned := { name := "qxb6603573a", sum := "240e70d50b2f3b80a054041d0b13d242b288c29e94d3f94606ed5a321ba05baf", checked := Try.checked }
namespace Rows
def none {H : Type} : Left H := { results := [], args := [] }

/-- 'zzlaws_yamldoc_b1.FnEndsDocumentMarkerLines': WHATEVER THE INPUT: true; the input reads as it did. -/
def fnEndsDocumentMarkerLinesSpec : ChangeSpec := { name := "fnEndsDocumentMarkerLines", fn := fun _ => fun
  | [d] => { results := [.lit (.bool true)], args := [d] }
  | _ => none }
def fnEndsDocumentMarkerLinesRow : OpenClaim := { program := "qxb6603573a", sum := "240e70d50b2f3b80a054041d0b13d242b288c29e94d3f94606ed5a321ba05baf", func := "example.com/traffic-config-server/traffic-config-server/zzlaws_yamldoc_b1.FnEndsDocumentMarkerLines", spec := "fnEndsDocumentMarkerLines", inPlace := ["internal/bytealg.IndexByte"], apart := false }
def FnEndsDocumentMarkerLinesSaid : Prop := fnEndsDocumentMarkerLinesRow.holds Try.pinned (OpenSpec.ofChange fnEndsDocumentMarkerLinesSpec)

/-- ITS FALSE NEIGHBOUR: 'it returns false'. Refute it at one input. -/
def fnEndsDocumentMarkerLinesWrong : ChangeSpec := { name := "fnEndsDocumentMarkerLines", fn := fun _ => fun
  | [d] => { results := [.lit (.bool false)], args := [d] }
  | _ => none }
def FnEndsDocumentMarkerLinesWrongFalsely : Prop := fnEndsDocumentMarkerLinesRow.holds Try.pinned (OpenSpec.ofChange fnEndsDocumentMarkerLinesWrong)

/-- 'zzlaws_yamldoc_b1.FnAsUTF8RoundTrip': WHATEVER THE INPUT: true; the input reads as it did. -/
def fnAsUTF8RoundTripSpec : ChangeSpec := { name := "fnAsUTF8RoundTrip", fn := fun _ => fun
  | [d] => { results := [.lit (.bool true)], args := [d] }
  | _ => none }
def fnAsUTF8RoundTripRow : OpenClaim := { program := "qxb6603573a", sum := "240e70d50b2f3b80a054041d0b13d242b288c29e94d3f94606ed5a321ba05baf", func := "example.com/traffic-config-server/traffic-config-server/zzlaws_yamldoc_b1.FnAsUTF8RoundTrip", spec := "fnAsUTF8RoundTrip", unfollowed := true, recurses := true, named := ["encoding/binary.LittleEndian", "encoding/binary.BigEndian"], apart := false }
def FnAsUTF8RoundTripSaid : Prop := fnAsUTF8RoundTripRow.holds Try.pinned (OpenSpec.ofChange fnAsUTF8RoundTripSpec)

/-- ITS FALSE NEIGHBOUR: 'it returns false'. Refute it at one input. -/
def fnAsUTF8RoundTripWrong : ChangeSpec := { name := "fnAsUTF8RoundTrip", fn := fun _ => fun
  | [d] => { results := [.lit (.bool false)], args := [d] }
  | _ => none }
def FnAsUTF8RoundTripWrongFalsely : Prop := fnAsUTF8RoundTripRow.holds Try.pinned (OpenSpec.ofChange fnAsUTF8RoundTripWrong)

end Rows
end Go.Proofs.Qxb6603573a

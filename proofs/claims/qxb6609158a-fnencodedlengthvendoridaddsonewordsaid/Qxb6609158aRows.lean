/-
  No cell of these rows narrows 'for every input' (looked for: loops, veiled, ifaces, maps, wideKeys, modest, calm, conditions, laid).
  DERIVED. THE GIVEN ROWS OF THIS SEAT. 1 by the template 'for every input the law returns true; each argument reads behind the call as it read before'; 0 by the template 'total and deterministic' (their statements: Qxb6609158aTotals.lean).
  GIVEN WITH THE SEED: the statements are not yours to turn. If you find one false, say at which input.
  Laid BY PROGRAM, IN A SANDBOX (cutbox-rows.mjs): the forced cells as the released guide's own fill.sh prints them over the translation 5c7498033e1f8f14… (all of the seat's roots in one cut). By AI agents, Wed Nov 11 2026. No macro, syntax, notation, axiom, sorry.
-/
import Derived.Test.Qxb6609158aChecked
import GoSem.Claim
import GoSem.ClaimJoined
import GoSem.ClaimMapViews
import Derived.JoinedTies
import Derived.KernelRfl
namespace Go.Proofs.Qxb6609158a
/- THE CELL 'sum', in the pinned program and in every row, IS THE sha256 OF THE DUMP (.gsa) THAT Qxb6609158aProg.lean LOADS. Nothing in Lean hashes anything: it is a label: what it is worth is what the hold of that sum in a sandbox is worth. -/
noncomputable def Try.pinned : Pinned := { name := "qxb6609158a", sum := "5c7498033e1f8f14e0ef70e2f6ea6a6ed3218c92bb28cd5327bd522444f8dccc", checked := Try.checked }
namespace Rows
def none {H : Type} : Left H := { results := [], args := [] }

/-- 'zzlaws_diameter_b1.FnEncodedLengthVendorIDAddsOneWord': WHATEVER THE INPUT: true; the input reads as it did. -/
def fnEncodedLengthVendorIDAddsOneWordSpec : ChangeSpec := { name := "fnEncodedLengthVendorIDAddsOneWord", fn := fun _ => fun
  | [d1, d2, d3, d4] => { results := [.lit (.bool true)], args := [d1, d2, d3, d4] }
  | _ => none }
def fnEncodedLengthVendorIDAddsOneWordRow : OpenClaim := { program := "qxb6609158a", sum := "5c7498033e1f8f14e0ef70e2f6ea6a6ed3218c92bb28cd5327bd522444f8dccc", func := "example.com/chordal/chordal/zzlaws_diameter_b1.FnEncodedLengthVendorIDAddsOneWord", spec := "fnEncodedLengthVendorIDAddsOneWord", apart := false }
def FnEncodedLengthVendorIDAddsOneWordSaid : Prop := fnEncodedLengthVendorIDAddsOneWordRow.holds Try.pinned (OpenSpec.ofChange fnEncodedLengthVendorIDAddsOneWordSpec)

/-- ITS FALSE NEIGHBOUR: 'it returns false'. Refute it at one input. -/
def fnEncodedLengthVendorIDAddsOneWordWrong : ChangeSpec := { name := "fnEncodedLengthVendorIDAddsOneWord", fn := fun _ => fun
  | [d1, d2, d3, d4] => { results := [.lit (.bool false)], args := [d1, d2, d3, d4] }
  | _ => none }
def FnEncodedLengthVendorIDAddsOneWordWrongFalsely : Prop := fnEncodedLengthVendorIDAddsOneWordRow.holds Try.pinned (OpenSpec.ofChange fnEncodedLengthVendorIDAddsOneWordWrong)

end Rows
end Go.Proofs.Qxb6609158a

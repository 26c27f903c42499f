/-
  No cell of these rows narrows 'for every input' (looked for: loops, veiled, ifaces, maps, wideKeys, modest, calm, conditions, laid).
  DERIVED. THE GIVEN ROWS OF THIS SEAT. 2 by the template 'for every input the law returns true; each argument reads behind the call as it read before'; 0 by the template 'total and deterministic' (their statements: Qxb6609154aTotals.lean).
  GIVEN WITH THE SEED: the statements are not yours to turn. If you find one false, say at which input.
  Laid BY PROGRAM, IN A SANDBOX (cutbox-rows.mjs): the forced cells as the released guide's own fill.sh prints them over the translation df0559acca2aafd3… (all of the seat's roots in one cut). By AI agents, Wed Nov 11 2026. No macro, syntax, notation, axiom, sorry.
-/
import Derived.Test.Qxb6609154aChecked
import GoSem.Claim
import GoSem.ClaimJoined
import GoSem.ClaimMapViews
import Derived.JoinedTies
import Derived.KernelRfl
namespace Go.Proofs.Qxb6609154a
/- THE CELL 'sum', in the pinned program and in every row, IS THE sha256 OF THE DUMP (.gsa) THAT Qxb6609154aProg.lean LOADS. Nothing in Lean hashes anything: it is a label: what it is worth is what the hold of that sum in a sandbox is worth. -/
noncomputable def Try.pinned : Pinned := { name := "qxb6609154a", sum := "df0559acca2aafd3b97ef88bdfc12c66136789d7839027825b033cde7087dc20", checked := Try.checked }
namespace Rows
def none {H : Type} : Left H := { results := [], args := [] }

/-- 'zzlaws_internal_node_b1.FnLanesShareDealsRoomRoundRobin': WHATEVER THE INPUT: true; the input reads as it did. -/
def fnLanesShareDealsRoomRoundRobinSpec : ChangeSpec := { name := "fnLanesShareDealsRoomRoundRobin", fn := fun _ => fun
  | [d1, d2, d3] => { results := [.lit (.bool true)], args := [d1, d2, d3] }
  | _ => none }
def fnLanesShareDealsRoomRoundRobinRow : OpenClaim := { program := "qxb6609154a", sum := "df0559acca2aafd3b97ef88bdfc12c66136789d7839027825b033cde7087dc20", func := "example.com/instate/instate/zzlaws_internal_node_b1.FnLanesShareDealsRoomRoundRobin", spec := "fnLanesShareDealsRoomRoundRobin", apart := false }
def FnLanesShareDealsRoomRoundRobinSaid : Prop := fnLanesShareDealsRoomRoundRobinRow.holds Try.pinned (OpenSpec.ofChange fnLanesShareDealsRoomRoundRobinSpec)

/-- ITS FALSE NEIGHBOUR: 'it returns false'. Refute it at one input. -/
def fnLanesShareDealsRoomRoundRobinWrong : ChangeSpec := { name := "fnLanesShareDealsRoomRoundRobin", fn := fun _ => fun
  | [d1, d2, d3] => { results := [.lit (.bool false)], args := [d1, d2, d3] }
  | _ => none }
def FnLanesShareDealsRoomRoundRobinWrongFalsely : Prop := fnLanesShareDealsRoomRoundRobinRow.holds Try.pinned (OpenSpec.ofChange fnLanesShareDealsRoomRoundRobinWrong)

/-- 'zzlaws_internal_node_b1.FnLanesSharesSplitTheWholeRoomEvenly': WHATEVER THE INPUT: true; the input reads as it did. -/
def fnLanesSharesSplitTheWholeRoomEvenlySpec : ChangeSpec := { name := "fnLanesSharesSplitTheWholeRoomEvenly", fn := fun _ => fun
  | [d1, d2] => { results := [.lit (.bool true)], args := [d1, d2] }
  | _ => none }
def fnLanesSharesSplitTheWholeRoomEvenlyRow : OpenClaim := { program := "qxb6609154a", sum := "df0559acca2aafd3b97ef88bdfc12c66136789d7839027825b033cde7087dc20", func := "example.com/instate/instate/zzlaws_internal_node_b1.FnLanesSharesSplitTheWholeRoomEvenly", spec := "fnLanesSharesSplitTheWholeRoomEvenly", apart := false }
def FnLanesSharesSplitTheWholeRoomEvenlySaid : Prop := fnLanesSharesSplitTheWholeRoomEvenlyRow.holds Try.pinned (OpenSpec.ofChange fnLanesSharesSplitTheWholeRoomEvenlySpec)

/-- ITS FALSE NEIGHBOUR: 'it returns false'. Refute it at one input. -/
def fnLanesSharesSplitTheWholeRoomEvenlyWrong : ChangeSpec := { name := "fnLanesSharesSplitTheWholeRoomEvenly", fn := fun _ => fun
  | [d1, d2] => { results := [.lit (.bool false)], args := [d1, d2] }
  | _ => none }
def FnLanesSharesSplitTheWholeRoomEvenlyWrongFalsely : Prop := fnLanesSharesSplitTheWholeRoomEvenlyRow.holds Try.pinned (OpenSpec.ofChange fnLanesSharesSplitTheWholeRoomEvenlyWrong)

end Rows
end Go.Proofs.Qxb6609154a

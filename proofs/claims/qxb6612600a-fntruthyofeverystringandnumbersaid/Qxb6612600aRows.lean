/-
  No cell of these rows narrows 'for every input' (looked for: loops, veiled, ifaces, maps, wideKeys, modest, calm, conditions, laid).
  DERIVED. THE GIVEN ROWS OF THIS SEAT. 2 by the template 'for every input the law returns true; each argument reads behind the call as it read before'; 0 by the template 'total and deterministic' (their statements: Qxb6612600aTotals.lean).
  GIVEN WITH THE SEED: the statements are not yours to turn. If you find one false, say at which input.
  Laid BY PROGRAM, IN A SANDBOX (cutbox-rows.mjs): the forced cells as the released guide's own fill.sh prints them over the translation 0a2147d1e155fc21… (all of the seat's roots in one cut). By AI agents, Wed Nov 11 2026. No macro, syntax, notation, axiom, sorry.
-/
import Derived.Test.Qxb6612600aChecked
import GoSem.Claim
import GoSem.ClaimJoined
import GoSem.ClaimMapViews
import Derived.JoinedTies
import Derived.KernelRfl
namespace Go.Proofs.Qxb6612600a
/- THE CELL 'sum', in the pinned program and in every row, IS THE sha256 OF THE DUMP (.gsa) THAT Qxb6612600aProg.lean LOADS. Nothing in Lean hashes anything: it is a label: what it is worth is what the hold of that sum in a sandbox is worth. -/
noncomputable def Try.pinned : Pinned := { name := "qxb6612600a", sum := "0a2147d1e155fc21a8536f0c8742f5059fa63b1ab3a73c41dbc9fb1e2ad25d19", checked := Try.checked }
namespace Rows
def none {H : Type} : Left H := { results := [], args := [] }

/-- 'zzlaws_internal_lua_b1.FnTruthyOfBoolIsTheBool': WHATEVER THE INPUT: true; the input reads as it did. -/
def fnTruthyOfBoolIsTheBoolSpec : ChangeSpec := { name := "fnTruthyOfBoolIsTheBool", fn := fun _ => fun
  | [d] => { results := [.lit (.bool true)], args := [d] }
  | _ => none }
def fnTruthyOfBoolIsTheBoolRow : OpenClaim := { program := "qxb6612600a", sum := "0a2147d1e155fc21a8536f0c8742f5059fa63b1ab3a73c41dbc9fb1e2ad25d19", func := "example.com/keelstone/keelstone/zzlaws_internal_lua_b1.FnTruthyOfBoolIsTheBool", spec := "fnTruthyOfBoolIsTheBool", apart := false }
def FnTruthyOfBoolIsTheBoolSaid : Prop := fnTruthyOfBoolIsTheBoolRow.holds Try.pinned (OpenSpec.ofChange fnTruthyOfBoolIsTheBoolSpec)

/-- ITS FALSE NEIGHBOUR: 'it returns false'. Refute it at one input. -/
def fnTruthyOfBoolIsTheBoolWrong : ChangeSpec := { name := "fnTruthyOfBoolIsTheBool", fn := fun _ => fun
  | [d] => { results := [.lit (.bool false)], args := [d] }
  | _ => none }
def FnTruthyOfBoolIsTheBoolWrongFalsely : Prop := fnTruthyOfBoolIsTheBoolRow.holds Try.pinned (OpenSpec.ofChange fnTruthyOfBoolIsTheBoolWrong)

/-- 'zzlaws_internal_lua_b1.FnTruthyOfEveryStringAndNumber': WHATEVER THE INPUT: true; the input reads as it did. -/
def fnTruthyOfEveryStringAndNumberSpec : ChangeSpec := { name := "fnTruthyOfEveryStringAndNumber", fn := fun _ => fun
  | [d1, d2] => { results := [.lit (.bool true)], args := [d1, d2] }
  | _ => none }
def fnTruthyOfEveryStringAndNumberRow : OpenClaim := { program := "qxb6612600a", sum := "0a2147d1e155fc21a8536f0c8742f5059fa63b1ab3a73c41dbc9fb1e2ad25d19", func := "example.com/keelstone/keelstone/zzlaws_internal_lua_b1.FnTruthyOfEveryStringAndNumber", spec := "fnTruthyOfEveryStringAndNumber", apart := false }
def FnTruthyOfEveryStringAndNumberSaid : Prop := fnTruthyOfEveryStringAndNumberRow.holds Try.pinned (OpenSpec.ofChange fnTruthyOfEveryStringAndNumberSpec)

/-- ITS FALSE NEIGHBOUR: 'it returns false'. Refute it at one input. -/
def fnTruthyOfEveryStringAndNumberWrong : ChangeSpec := { name := "fnTruthyOfEveryStringAndNumber", fn := fun _ => fun
  | [d1, d2] => { results := [.lit (.bool false)], args := [d1, d2] }
  | _ => none }
def FnTruthyOfEveryStringAndNumberWrongFalsely : Prop := fnTruthyOfEveryStringAndNumberRow.holds Try.pinned (OpenSpec.ofChange fnTruthyOfEveryStringAndNumberWrong)

end Rows
end Go.Proofs.Qxb6612600a

/-
  No cell of these rows narrows 'for every input' (looked for: loops, veiled, ifaces, maps, wideKeys, modest, calm, conditions, laid).
  DERIVED. THE GIVEN ROWS OF THIS SEAT. 2 by the template 'for every input the law returns true; each argument reads behind the call as it read before'; 0 by the template 'total and deterministic' (their statements: Qxb6615640aTotals.lean).
  GIVEN WITH THE SEED: the statements are not yours to turn. If you find one false, say at which input.
  Laid BY PROGRAM, IN A SANDBOX (cutbox-rows.mjs): the forced cells as the released guide's own fill.sh prints them over the translation b79432d6d611fb5c… (all of the seat's roots in one cut). By AI agents, Wed Nov 11 2026. No macro, syntax, notation, axiom, sorry.
-/
import Derived.Test.Qxb6615640aChecked
import GoSem.Claim
import GoSem.ClaimJoined
import GoSem.ClaimMapViews
import Derived.JoinedTies
import Derived.KernelRfl
namespace Go.Proofs.Qxb6615640a
/- THE CELL 'sum', in the pinned program and in every row, IS THE sha256 OF THE DUMP (.gsa) THAT Qxb6615640aProg.lean LOADS. Nothing in Lean hashes anything: it is a label: what it is worth is what the hold of that sum in a sandbox is worth. -/
noncomputable def Try.pinned : Pinned := { name := "qxb6615640a", sum := "b79432d6d611fb5cfcf356c17dc9052b27a38033d9998da86da827dba1bfe7eb", checked := Try.checked }
namespace Rows
def none {H : Type} : Left H := { results := [], args := [] }

/-- 'zzlaws_internal_lua_b1.FnNumberAsNumberRoundTrip': WHATEVER THE INPUT: true; the input reads as it did. -/
def fnNumberAsNumberRoundTripSpec : ChangeSpec := { name := "fnNumberAsNumberRoundTrip", fn := fun _ => fun
  | [d] => { results := [.lit (.bool true)], args := [d] }
  | _ => none }
def fnNumberAsNumberRoundTripRow : OpenClaim := { program := "qxb6615640a", sum := "b79432d6d611fb5cfcf356c17dc9052b27a38033d9998da86da827dba1bfe7eb", func := "example.com/quorate/quorate/zzlaws_internal_lua_b1.FnNumberAsNumberRoundTrip", spec := "fnNumberAsNumberRoundTrip", apart := false }
def FnNumberAsNumberRoundTripSaid : Prop := fnNumberAsNumberRoundTripRow.holds Try.pinned (OpenSpec.ofChange fnNumberAsNumberRoundTripSpec)

/-- ITS FALSE NEIGHBOUR: 'it returns false'. Refute it at one input. -/
def fnNumberAsNumberRoundTripWrong : ChangeSpec := { name := "fnNumberAsNumberRoundTrip", fn := fun _ => fun
  | [d] => { results := [.lit (.bool false)], args := [d] }
  | _ => none }
def FnNumberAsNumberRoundTripWrongFalsely : Prop := fnNumberAsNumberRoundTripRow.holds Try.pinned (OpenSpec.ofChange fnNumberAsNumberRoundTripWrong)

/-- 'zzlaws_internal_lua_b1.FnOnlyNumbersAreNumbers': WHATEVER THE INPUT: true; the input reads as it did. -/
def fnOnlyNumbersAreNumbersSpec : ChangeSpec := { name := "fnOnlyNumbersAreNumbers", fn := fun _ => fun
  | [d1, d2] => { results := [.lit (.bool true)], args := [d1, d2] }
  | _ => none }
def fnOnlyNumbersAreNumbersRow : OpenClaim := { program := "qxb6615640a", sum := "b79432d6d611fb5cfcf356c17dc9052b27a38033d9998da86da827dba1bfe7eb", func := "example.com/quorate/quorate/zzlaws_internal_lua_b1.FnOnlyNumbersAreNumbers", spec := "fnOnlyNumbersAreNumbers", apart := false }
def FnOnlyNumbersAreNumbersSaid : Prop := fnOnlyNumbersAreNumbersRow.holds Try.pinned (OpenSpec.ofChange fnOnlyNumbersAreNumbersSpec)

/-- ITS FALSE NEIGHBOUR: 'it returns false'. Refute it at one input. -/
def fnOnlyNumbersAreNumbersWrong : ChangeSpec := { name := "fnOnlyNumbersAreNumbers", fn := fun _ => fun
  | [d1, d2] => { results := [.lit (.bool false)], args := [d1, d2] }
  | _ => none }
def FnOnlyNumbersAreNumbersWrongFalsely : Prop := fnOnlyNumbersAreNumbersRow.holds Try.pinned (OpenSpec.ofChange fnOnlyNumbersAreNumbersWrong)

end Rows
end Go.Proofs.Qxb6615640a

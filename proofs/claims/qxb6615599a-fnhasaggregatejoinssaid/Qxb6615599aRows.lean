/-
  No cell of these rows narrows 'for every input' (looked for: loops, veiled, ifaces, maps, wideKeys, modest, calm, conditions, laid).
  DERIVED. THE GIVEN ROWS OF THIS SEAT. 4 by the template 'for every input the law returns true; each argument reads behind the call as it read before'; 0 by the template 'total and deterministic' (their statements: Qxb6615599aTotals.lean).
  GIVEN WITH THE SEED: the statements are not yours to turn. If you find one false, say at which input.
  Laid BY PROGRAM, IN A SANDBOX (cutbox-rows.mjs): the forced cells as the released guide's own fill.sh prints them over the translation fe7a37ba56f4db45… (all of the seat's roots in one cut). By AI agents, Wed Nov 11 2026. No macro, syntax, notation, axiom, sorry.
-/
import Derived.Test.Qxb6615599aChecked
import GoSem.Claim
import GoSem.ClaimJoined
import GoSem.ClaimMapViews
import Derived.JoinedTies
import Derived.KernelRfl
namespace Go.Proofs.Qxb6615599a
/- THE CELL 'sum', in the pinned program and in every row, IS THE sha256 OF THE DUMP (.gsa) THAT Qxb6615599aProg.lean LOADS. Nothing in Lean hashes anything: it is a label: what it is worth is what the hold of that sum in a sandbox is worth. -/
noncomputable def Try.pinned : Pinned := { name := "qxb6615599a", sum := "fe7a37ba56f4db453e9f0c938804228084f57e6cc6c82f3d18f2a0e3b9f652f7", checked := Try.checked }
namespace Rows
def none {H : Type} : Left H := { results := [], args := [] }

/-- 'zzlaws_internal_sqlparse_b1.FnAlikeChainsExact': WHATEVER THE INPUT: true; the input reads as it did. -/
def fnAlikeChainsExactSpec : ChangeSpec := { name := "fnAlikeChainsExact", fn := fun _ => fun
  | [d1, d2, d3, d4, d5, d6] => { results := [.lit (.bool true)], args := [d1, d2, d3, d4, d5, d6] }
  | _ => none }
def fnAlikeChainsExactRow : OpenClaim := { program := "qxb6615599a", sum := "fe7a37ba56f4db453e9f0c938804228084f57e6cc6c82f3d18f2a0e3b9f652f7", func := "example.com/tidewater/tidewater/zzlaws_internal_sqlparse_b1.FnAlikeChainsExact", spec := "fnAlikeChainsExact", unfollowed := true, recurses := true, apart := false }
def FnAlikeChainsExactSaid : Prop := fnAlikeChainsExactRow.holds Try.pinned (OpenSpec.ofChange fnAlikeChainsExactSpec)

/-- ITS FALSE NEIGHBOUR: 'it returns false'. Refute it at one input. -/
def fnAlikeChainsExactWrong : ChangeSpec := { name := "fnAlikeChainsExact", fn := fun _ => fun
  | [d1, d2, d3, d4, d5, d6] => { results := [.lit (.bool false)], args := [d1, d2, d3, d4, d5, d6] }
  | _ => none }
def FnAlikeChainsExactWrongFalsely : Prop := fnAlikeChainsExactRow.holds Try.pinned (OpenSpec.ofChange fnAlikeChainsExactWrong)

/-- 'zzlaws_internal_sqlparse_b1.FnAlikeInListInsertReplace': WHATEVER THE INPUT: true; the input reads as it did. -/
def fnAlikeInListInsertReplaceSpec : ChangeSpec := { name := "fnAlikeInListInsertReplace", fn := fun _ => fun
  | [d1, d2, d3, d4, d5, d6] => { results := [.lit (.bool true)], args := [d1, d2, d3, d4, d5, d6] }
  | _ => none }
def fnAlikeInListInsertReplaceRow : OpenClaim := { program := "qxb6615599a", sum := "fe7a37ba56f4db453e9f0c938804228084f57e6cc6c82f3d18f2a0e3b9f652f7", func := "example.com/tidewater/tidewater/zzlaws_internal_sqlparse_b1.FnAlikeInListInsertReplace", spec := "fnAlikeInListInsertReplace", unfollowed := true, recurses := true, apart := false }
def FnAlikeInListInsertReplaceSaid : Prop := fnAlikeInListInsertReplaceRow.holds Try.pinned (OpenSpec.ofChange fnAlikeInListInsertReplaceSpec)

/-- ITS FALSE NEIGHBOUR: 'it returns false'. Refute it at one input. -/
def fnAlikeInListInsertReplaceWrong : ChangeSpec := { name := "fnAlikeInListInsertReplace", fn := fun _ => fun
  | [d1, d2, d3, d4, d5, d6] => { results := [.lit (.bool false)], args := [d1, d2, d3, d4, d5, d6] }
  | _ => none }
def FnAlikeInListInsertReplaceWrongFalsely : Prop := fnAlikeInListInsertReplaceRow.holds Try.pinned (OpenSpec.ofChange fnAlikeInListInsertReplaceWrong)

/-- 'zzlaws_internal_sqlparse_b1.FnHasAggregateChainExact': WHATEVER THE INPUT: true; the input reads as it did. -/
def fnHasAggregateChainExactSpec : ChangeSpec := { name := "fnHasAggregateChainExact", fn := fun _ => fun
  | [d1, d2, d3] => { results := [.lit (.bool true)], args := [d1, d2, d3] }
  | _ => none }
def fnHasAggregateChainExactRow : OpenClaim := { program := "qxb6615599a", sum := "fe7a37ba56f4db453e9f0c938804228084f57e6cc6c82f3d18f2a0e3b9f652f7", func := "example.com/tidewater/tidewater/zzlaws_internal_sqlparse_b1.FnHasAggregateChainExact", spec := "fnHasAggregateChainExact", unfollowed := true, recurses := true, apart := false }
def FnHasAggregateChainExactSaid : Prop := fnHasAggregateChainExactRow.holds Try.pinned (OpenSpec.ofChange fnHasAggregateChainExactSpec)

/-- ITS FALSE NEIGHBOUR: 'it returns false'. Refute it at one input. -/
def fnHasAggregateChainExactWrong : ChangeSpec := { name := "fnHasAggregateChainExact", fn := fun _ => fun
  | [d1, d2, d3] => { results := [.lit (.bool false)], args := [d1, d2, d3] }
  | _ => none }
def FnHasAggregateChainExactWrongFalsely : Prop := fnHasAggregateChainExactRow.holds Try.pinned (OpenSpec.ofChange fnHasAggregateChainExactWrong)

/-- 'zzlaws_internal_sqlparse_b1.FnHasAggregateJoins': WHATEVER THE INPUT: true; the input reads as it did. -/
def fnHasAggregateJoinsSpec : ChangeSpec := { name := "fnHasAggregateJoins", fn := fun _ => fun
  | [d1, d2, d3, d4, d5, d6, d7] => { results := [.lit (.bool true)], args := [d1, d2, d3, d4, d5, d6, d7] }
  | _ => none }
def fnHasAggregateJoinsRow : OpenClaim := { program := "qxb6615599a", sum := "fe7a37ba56f4db453e9f0c938804228084f57e6cc6c82f3d18f2a0e3b9f652f7", func := "example.com/tidewater/tidewater/zzlaws_internal_sqlparse_b1.FnHasAggregateJoins", spec := "fnHasAggregateJoins", unfollowed := true, recurses := true, apart := false }
def FnHasAggregateJoinsSaid : Prop := fnHasAggregateJoinsRow.holds Try.pinned (OpenSpec.ofChange fnHasAggregateJoinsSpec)

/-- ITS FALSE NEIGHBOUR: 'it returns false'. Refute it at one input. -/
def fnHasAggregateJoinsWrong : ChangeSpec := { name := "fnHasAggregateJoins", fn := fun _ => fun
  | [d1, d2, d3, d4, d5, d6, d7] => { results := [.lit (.bool false)], args := [d1, d2, d3, d4, d5, d6, d7] }
  | _ => none }
def FnHasAggregateJoinsWrongFalsely : Prop := fnHasAggregateJoinsRow.holds Try.pinned (OpenSpec.ofChange fnHasAggregateJoinsWrong)

end Rows
end Go.Proofs.Qxb6615599a

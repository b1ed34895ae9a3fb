/-
  No cell of these rows narrows 'for every input' (looked for: loops, veiled, ifaces, maps, wideKeys, modest, calm, conditions, laid).
  DERIVED. THE GIVEN ROWS OF THIS SEAT. 1 by the template 'for every input the law returns true; each argument reads behind the call as it read before'; 0 by the template 'total and deterministic' (their statements: Qxb6615638aTotals.lean).
  GIVEN WITH THE SEED: the statements are not yours to turn. If you find one false, say at which input.
  Laid BY PROGRAM, IN A SANDBOX (cutbox-rows.mjs): the forced cells as the released guide's own fill.sh prints them over the translation 1ad9f356c1948078… (all of the seat's roots in one cut). By AI agents, Wed Nov 11 2026. No macro, syntax, notation, axiom, sorry.
-/
import Derived.Test.Qxb6615638aChecked
import GoSem.Claim
import GoSem.ClaimJoined
import GoSem.ClaimMapViews
import Derived.JoinedTies
import Derived.KernelRfl
namespace Go.Proofs.Qxb6615638a
/- THE CELL 'sum', in the pinned program and in every row, IS THE sha256 OF THE DUMP (.gsa) THAT Qxb6615638aProg.lean LOADS. Nothing in Lean hashes anything: it is a label: what it is worth is what the hold of that sum in a sandbox is worth. -/
noncomputable def Try.pinned : Pinned := { name := "qxb6615638a", sum := "1ad9f356c1948078fec28aee0937fc11e61ee12bd6e7a1f8811bcae761ec86d2", checked := Try.checked }
namespace Rows
def none {H : Type} : Left H := { results := [], args := [] }

/-- 'zzlaws_root_b1.FnRevisionIsGivesEachCompareItsOwnRevision': WHATEVER THE INPUT: true; the input reads as it did. -/
def fnRevisionIsGivesEachCompareItsOwnRevisionSpec : ChangeSpec := { name := "fnRevisionIsGivesEachCompareItsOwnRevision", fn := fun _ => fun
  | [d1, d2] => { results := [.lit (.bool true)], args := [d1, d2] }
  | _ => none }
def fnRevisionIsGivesEachCompareItsOwnRevisionRow : OpenClaim := { program := "qxb6615638a", sum := "1ad9f356c1948078fec28aee0937fc11e61ee12bd6e7a1f8811bcae761ec86d2", func := "example.com/fenced-lease/fenced-lease/zzlaws_root_b1.FnRevisionIsGivesEachCompareItsOwnRevision", spec := "fnRevisionIsGivesEachCompareItsOwnRevision", apart := false }
def FnRevisionIsGivesEachCompareItsOwnRevisionSaid : Prop := fnRevisionIsGivesEachCompareItsOwnRevisionRow.holds Try.pinned (OpenSpec.ofChange fnRevisionIsGivesEachCompareItsOwnRevisionSpec)

/-- ITS FALSE NEIGHBOUR: 'it returns false'. Refute it at one input. -/
def fnRevisionIsGivesEachCompareItsOwnRevisionWrong : ChangeSpec := { name := "fnRevisionIsGivesEachCompareItsOwnRevision", fn := fun _ => fun
  | [d1, d2] => { results := [.lit (.bool false)], args := [d1, d2] }
  | _ => none }
def FnRevisionIsGivesEachCompareItsOwnRevisionWrongFalsely : Prop := fnRevisionIsGivesEachCompareItsOwnRevisionRow.holds Try.pinned (OpenSpec.ofChange fnRevisionIsGivesEachCompareItsOwnRevisionWrong)

end Rows
end Go.Proofs.Qxb6615638a

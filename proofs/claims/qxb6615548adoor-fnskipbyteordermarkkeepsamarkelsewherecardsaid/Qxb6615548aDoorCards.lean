/-
  DERIVED. GIVEN WITH THE SEED: THE CARDS: each row of Qxb6615548aDoorRows.lean that lists a variable, with what it lists TIED to the program's text (the seventh form; the later family's looks); each row that meets fmt, with fmt's text TOLD by the authors' own Lean function (tested against real Go, not proved from fmt's source: count such statements apart). THE CARD IS WHAT COUNTS. Prove the row's statement (the work); the ties are given (Qxb6615548aDoorTie.lean); close each card by the builder's one call (the guide's Derived/Test/ToyasCard.lean, 'card_holds'). Laid BY PROGRAM, IN A SANDBOX (cutbox-door.mjs). By AI agents, Wed Nov 11 2026. No macro, syntax, notation, axiom, sorry.
-/
import Derived.Test.Qxb6615548aDoorRows
import GoSem.ClaimSeven
namespace Go.Proofs.Qxb6615548aDoor
namespace Rows

/-- THE TIED CARD OF 'zzlaws_csvfile_b1.FnSkipByteOrderMarkTakesOffAMarkAhead'. -/
def fnSkipByteOrderMarkTakesOffAMarkAheadCard : Claim7 := { stood := { row := fnSkipByteOrderMarkTakesOffAMarkAheadRow, standIns := [], harness := (true, "6f157b1f0b4c63eb4193b9c827bf1635f95063c4251860f705ea36b17d0ffc0d"), looks := true }, kinds := [], alts := [], laidByText := true, laidKinds := [.sentinel, .sentinel, .sentinel, .sentinel, .sentinel], laidTests := true, laidLooks := .later }
def FnSkipByteOrderMarkTakesOffAMarkAheadCardSaid : Prop := Claim7.holds Tryd.pinned (.plain (OpenSpec.ofChange fnSkipByteOrderMarkTakesOffAMarkAheadSpec)) fnSkipByteOrderMarkTakesOffAMarkAheadCard

/-- THE TIED CARD OF 'zzlaws_csvfile_b1.FnSkipByteOrderMarkKeepsAMarkElsewhere'. -/
def fnSkipByteOrderMarkKeepsAMarkElsewhereCard : Claim7 := { stood := { row := fnSkipByteOrderMarkKeepsAMarkElsewhereRow, standIns := [], harness := (true, "6f157b1f0b4c63eb4193b9c827bf1635f95063c4251860f705ea36b17d0ffc0d"), looks := true }, kinds := [], alts := [], laidByText := true, laidKinds := [.sentinel, .sentinel, .sentinel, .sentinel, .sentinel], laidTests := true, laidLooks := .later }
def FnSkipByteOrderMarkKeepsAMarkElsewhereCardSaid : Prop := Claim7.holds Tryd.pinned (.plain (OpenSpec.ofChange fnSkipByteOrderMarkKeepsAMarkElsewhereSpec)) fnSkipByteOrderMarkKeepsAMarkElsewhereCard
end Rows
end Go.Proofs.Qxb6615548aDoor

/-
  DERIVED. GIVEN WITH THE SEED: THE CARDS: each row of Qxb6613468aDoorRows.lean that lists a variable, with what it lists TIED to the program's text (the seventh form; the later family's looks); each row that meets fmt, with fmt's text TOLD by the authors' own Lean function (tested against real Go, not proved from fmt's source: count such statements apart). THE CARD IS WHAT COUNTS. Prove the row's statement (the work); the ties are given (Qxb6613468aDoorTie.lean); close each card by the builder's one call (the guide's Derived/Test/ToyasCard.lean, 'card_holds'). Laid BY PROGRAM, IN A SANDBOX (cutbox-door.mjs). By AI agents, Wed Nov 11 2026. No macro, syntax, notation, axiom, sorry.
-/
import Derived.Test.Qxb6613468aDoorRows
import GoSem.ClaimSeven
namespace Go.Proofs.Qxb6613468aDoor
namespace Rows

/-- THE TIED CARD OF 'zzlaws_root_b1.FnReadQuotedMatchesQuotedFieldModel'. -/
def fnReadQuotedMatchesQuotedFieldModelCard : Claim7 := { stood := { row := fnReadQuotedMatchesQuotedFieldModelRow, standIns := [], harness := (true, "e5d96346adf243f618253952f4d7ed4867614356c355402643d10b3e028a0038"), looks := true }, kinds := [], alts := [], laidByText := true, laidKinds := [.called, .called, .called, .called, .called], laidTests := true, laidLooks := .later }
def FnReadQuotedMatchesQuotedFieldModelCardSaid : Prop := Claim7.holds Tryd.pinned (.plain (OpenSpec.ofChange fnReadQuotedMatchesQuotedFieldModelSpec)) fnReadQuotedMatchesQuotedFieldModelCard

/-- THE TIED CARD OF 'zzlaws_root_b1.FnReadQuotedLineBreakJoinsNextLine'. -/
def fnReadQuotedLineBreakJoinsNextLineCard : Claim7 := { stood := { row := fnReadQuotedLineBreakJoinsNextLineRow, standIns := [], harness := (true, "e5d96346adf243f618253952f4d7ed4867614356c355402643d10b3e028a0038"), looks := true }, kinds := [], alts := [], laidByText := true, laidKinds := [.called, .called, .called, .called, .called], laidTests := true, laidLooks := .later }
def FnReadQuotedLineBreakJoinsNextLineCardSaid : Prop := Claim7.holds Tryd.pinned (.plain (OpenSpec.ofChange fnReadQuotedLineBreakJoinsNextLineSpec)) fnReadQuotedLineBreakJoinsNextLineCard
end Rows
end Go.Proofs.Qxb6613468aDoor

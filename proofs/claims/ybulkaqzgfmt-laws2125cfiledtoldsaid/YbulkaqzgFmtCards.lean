/-
  DERIVED. GIVEN WITH THE SEED: THE CARDS: each row of YbulkaqzgFmtRows.lean that lists a variable, with what it lists TIED to the program's text (the seventh form; the later family's looks); each row that meets fmt, with fmt's text TOLD by the authors' own Lean function (tested against real Go, not proved from fmt's source: count such statements apart). THE CARD IS WHAT COUNTS. Prove the row's statement (the work); the ties are given (YbulkaqzgFmtTie.lean); close each card by the builder's one call (the guide's Derived/Test/ToyasCard.lean, 'card_holds'). Laid BY PROGRAM, IN A SANDBOX (cutbox-door.mjs). By AI agents, Wed Nov 11 2026. No macro, syntax, notation, axiom, sorry.
-/
import Derived.Test.YbulkaqzgFmtRows
import GoSem.ClaimSeven
namespace Go.Proofs.YbulkaqzgFmt
namespace Rows

/-- THE TOLD CARD OF 'cache.LawS2125CFiled'. -/
def lawS2125CFiledCard : Claim7 := { stood := { row := lawS2125CFiledRow, standIns := [], harness := (true, "33629d09b5762f483912aa94a9ab731b39248e58cac07aa9431cb414abb12d49"), looks := true }, told := true, goes := false }
def LawS2125CFiledToldSaid : Prop := Claim7.holds Ybaf.pinned (.plain (OpenSpec.ofChange lawS2125CFiledSpec)) lawS2125CFiledCard
/-- ITS FALSE NEIGHBOUR. Refute it at one input. -/
def LawS2125CFiledToldWrongFalsely : Prop := Claim7.holds Ybaf.pinned (.plain (OpenSpec.ofChange lawS2125CFiledWrong)) lawS2125CFiledCard

/-- THE TOLD CARD OF 'cache.LawS2125CNoIndex'. -/
def lawS2125CNoIndexCard : Claim7 := { stood := { row := lawS2125CNoIndexRow, standIns := [], harness := (true, "33629d09b5762f483912aa94a9ab731b39248e58cac07aa9431cb414abb12d49"), looks := true }, told := true, goes := false }
def LawS2125CNoIndexToldSaid : Prop := Claim7.holds Ybaf.pinned (.plain (OpenSpec.ofChange lawS2125CNoIndexSpec)) lawS2125CNoIndexCard
/-- ITS FALSE NEIGHBOUR. Refute it at one input. -/
def LawS2125CNoIndexToldWrongFalsely : Prop := Claim7.holds Ybaf.pinned (.plain (OpenSpec.ofChange lawS2125CNoIndexWrong)) lawS2125CNoIndexCard
end Rows
end Go.Proofs.YbulkaqzgFmt

/-
  DERIVED. GIVEN WITH THE SEED: THE CARDS: each row of YbulkaqzuDoorRows.lean that lists a variable, with what it lists TIED to the program's text (the seventh form; the later family's looks); each row that meets fmt, with fmt's text TOLD by the authors' own Lean function (tested against real Go, not proved from fmt's source: count such statements apart). THE CARD IS WHAT COUNTS. Prove the row's statement (the work); the ties are given (YbulkaqzuDoorTie.lean); close each card by the builder's one call (the guide's Derived/Test/ToyasCard.lean, 'card_holds'). Laid BY PROGRAM, IN A SANDBOX (cutbox-door.mjs). By AI agents, Wed Nov 11 2026. No macro, syntax, notation, axiom, sorry.
-/
import Derived.Test.YbulkaqzuDoorRows
import GoSem.ClaimSeven
namespace Go.Proofs.YbulkaqzuDoor
namespace Rows

/-- THE TIED CARD OF 'msglog.LawS2126AFresh'. -/
def lawS2126AFreshCard : Claim7 := { stood := { row := lawS2126AFreshRow, standIns := [], harness := (true, "ce74b04b2d1a63bb84ffb36d45eac7267185fb62d1730a4b4f519432f4998786"), looks := true }, kinds := [], alts := [], laidByText := true, laidKinds := [.sentinel], laidTests := true, laidLooks := .later }
def LawS2126AFreshCardSaid : Prop := Claim7.holds Ybad.pinned (.plain (OpenSpec.ofChange lawS2126AFreshSpec)) lawS2126AFreshCard

/-- THE TIED CARD OF 'msglog.LawS2126AScript'. -/
def lawS2126AScriptCard : Claim7 := { stood := { row := lawS2126AScriptRow, standIns := [], harness := (true, "ce74b04b2d1a63bb84ffb36d45eac7267185fb62d1730a4b4f519432f4998786"), looks := true }, kinds := [], alts := [], laidByText := true, laidKinds := [.sentinel], laidTests := true, laidLooks := .later }
def LawS2126AScriptCardSaid : Prop := Claim7.holds Ybad.pinned (.plain (OpenSpec.ofChange lawS2126AScriptSpec)) lawS2126AScriptCard

/-- THE TIED CARD OF 'msglog.LawS2126AFail'. -/
def lawS2126AFailCard : Claim7 := { stood := { row := lawS2126AFailRow, standIns := [], harness := (true, "ce74b04b2d1a63bb84ffb36d45eac7267185fb62d1730a4b4f519432f4998786"), looks := true }, kinds := [], alts := [], laidByText := true, laidKinds := [.sentinel], laidTests := true, laidLooks := .later }
def LawS2126AFailCardSaid : Prop := Claim7.holds Ybad.pinned (.plain (OpenSpec.ofChange lawS2126AFailSpec)) lawS2126AFailCard

/-- THE TIED CARD OF 'msglog.LawS2126CNotes'. -/
def lawS2126CNotesCard : Claim7 := { stood := { row := lawS2126CNotesRow, standIns := [], harness := (true, "ce74b04b2d1a63bb84ffb36d45eac7267185fb62d1730a4b4f519432f4998786"), looks := true }, kinds := [], alts := [], laidByText := true, laidKinds := [.sentinel], laidTests := true, laidLooks := .later }
def LawS2126CNotesCardSaid : Prop := Claim7.holds Ybad.pinned (.plain (OpenSpec.ofChange lawS2126CNotesSpec)) lawS2126CNotesCard

/-- THE TIED CARD OF 'msglog.LawS2126CReuse'. -/
def lawS2126CReuseCard : Claim7 := { stood := { row := lawS2126CReuseRow, standIns := [], harness := (true, "ce74b04b2d1a63bb84ffb36d45eac7267185fb62d1730a4b4f519432f4998786"), looks := true }, kinds := [], alts := [], laidByText := true, laidKinds := [.sentinel], laidTests := true, laidLooks := .later }
def LawS2126CReuseCardSaid : Prop := Claim7.holds Ybad.pinned (.plain (OpenSpec.ofChange lawS2126CReuseSpec)) lawS2126CReuseCard
end Rows
end Go.Proofs.YbulkaqzuDoor

/-
  No cell of these rows narrows 'for every input' (looked for: loops, veiled, ifaces, maps, wideKeys, modest, calm, conditions, laid).
  DERIVED. THE GIVEN ROWS OF THIS SEAT. 2 by the template 'for every input the law returns true; each argument reads behind the call as it read before'; 0 by the template 'total and deterministic' (their statements: YbulkaqzgFmtTotals.lean).
  GIVEN WITH THE SEED: the statements are not yours to turn. If you find one false, say at which input.
  Laid BY PROGRAM, IN A SANDBOX (cutbox-rows.mjs): the forced cells as the released guide's own fill.sh prints them over the translation 2dffe40ce06f0f6a… (all of the seat's roots in one cut). By AI agents, Wed Nov 11 2026. No macro, syntax, notation, axiom, sorry.
-/
import Derived.Test.YbulkaqzgFmtChecked
import GoSem.Claim
import GoSem.ClaimJoined
import GoSem.ClaimMapViews
import Derived.JoinedTies
import Derived.KernelRfl
namespace Go.Proofs.YbulkaqzgFmt
/- THE CELL 'sum', in the pinned program and in every row, IS THE sha256 OF THE DUMP (.gsa) THAT YbulkaqzgFmtProg.lean LOADS. Nothing in Lean hashes anything: it is a label: what it is worth is what the hold of that sum in a sandbox is worth. -/
noncomputable def Ybaf.pinned : Pinned := { name := "ybulkaqzgfmt", sum := "2dffe40ce06f0f6a9b4a9dce1c586f266b24dba4572a8bc9c2719b06990eaf5f", checked := Ybaf.checked }
namespace Rows
def none {H : Type} : Left H := { results := [], args := [] }

/-- 'cache.LawS2125CFiled': WHATEVER THE INPUT: true; the input reads as it did. -/
def lawS2125CFiledSpec : ChangeSpec := { name := "lawS2125CFiled", fn := fun _ => fun
  | [d1, d2] => { results := [.lit (.bool true)], args := [d1, d2] }
  | _ => none }
def lawS2125CFiledRow : OpenClaim := { program := "ybulkaqzgfmt", sum := "2dffe40ce06f0f6a9b4a9dce1c586f266b24dba4572a8bc9c2719b06990eaf5f", func := "example.com/orbweaver/orbweaver/cache.LawS2125CFiled", spec := "lawS2125CFiled", stops := ["fmt.errorf"], inPlace := ["(*sync.RWMutex).RLock", "internal/race.Read", "internal/race.Disable", "sync/atomic.AddInt32", "sync.runtime_SemacquireRWMutexR", "internal/race.Enable", "internal/race.Acquire", "(*sync.RWMutex).RUnlock", "internal/race.ReleaseMerge", "(*sync.RWMutex).rUnlockSlow", "sync.fatal", "sync.runtime_Semrelease", "fmt.errorf"], recurses := true, apart := false }
/-- NO THEOREM (fmt's text is open here; it may be false): for the released tool's asking of the row's closed facts alone. THE STATEMENT IS 'LawS2125CFiledToldSaid' (YbulkaqzgFmtCards.lean). -/
def LawS2125CFiledFormAsk : Prop := lawS2125CFiledRow.holds Ybaf.pinned (OpenSpec.ofChange lawS2125CFiledSpec)

/-- ITS FALSE NEIGHBOUR: 'it returns false'. Refute it at one input. -/
def lawS2125CFiledWrong : ChangeSpec := { name := "lawS2125CFiled", fn := fun _ => fun
  | [d1, d2] => { results := [.lit (.bool false)], args := [d1, d2] }
  | _ => none }
def LawS2125CFiledWrongFormAsk : Prop := lawS2125CFiledRow.holds Ybaf.pinned (OpenSpec.ofChange lawS2125CFiledWrong)

/-- 'cache.LawS2125CNoIndex': WHATEVER THE INPUT: true; the input reads as it did. -/
def lawS2125CNoIndexSpec : ChangeSpec := { name := "lawS2125CNoIndex", fn := fun _ => fun
  | [d1, d2, d3] => { results := [.lit (.bool true)], args := [d1, d2, d3] }
  | _ => none }
def lawS2125CNoIndexRow : OpenClaim := { program := "ybulkaqzgfmt", sum := "2dffe40ce06f0f6a9b4a9dce1c586f266b24dba4572a8bc9c2719b06990eaf5f", func := "example.com/orbweaver/orbweaver/cache.LawS2125CNoIndex", spec := "lawS2125CNoIndex", stops := ["fmt.errorf"], inPlace := ["(*sync.RWMutex).RLock", "internal/race.Read", "internal/race.Disable", "sync/atomic.AddInt32", "sync.runtime_SemacquireRWMutexR", "internal/race.Enable", "internal/race.Acquire", "(*sync.RWMutex).RUnlock", "internal/race.ReleaseMerge", "(*sync.RWMutex).rUnlockSlow", "sync.fatal", "sync.runtime_Semrelease", "fmt.errorf"], apart := false }
/-- NO THEOREM (fmt's text is open here; it may be false): for the released tool's asking of the row's closed facts alone. THE STATEMENT IS 'LawS2125CNoIndexToldSaid' (YbulkaqzgFmtCards.lean). -/
def LawS2125CNoIndexFormAsk : Prop := lawS2125CNoIndexRow.holds Ybaf.pinned (OpenSpec.ofChange lawS2125CNoIndexSpec)

/-- ITS FALSE NEIGHBOUR: 'it returns false'. Refute it at one input. -/
def lawS2125CNoIndexWrong : ChangeSpec := { name := "lawS2125CNoIndex", fn := fun _ => fun
  | [d1, d2, d3] => { results := [.lit (.bool false)], args := [d1, d2, d3] }
  | _ => none }
def LawS2125CNoIndexWrongFormAsk : Prop := lawS2125CNoIndexRow.holds Ybaf.pinned (OpenSpec.ofChange lawS2125CNoIndexWrong)

end Rows
end Go.Proofs.YbulkaqzgFmt

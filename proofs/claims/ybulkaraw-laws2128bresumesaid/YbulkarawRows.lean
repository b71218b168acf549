/-
  No cell of these rows narrows 'for every input' (looked for: loops, veiled, ifaces, maps, wideKeys, modest, calm, conditions, laid).
  DERIVED. THE GIVEN ROWS OF THIS SEAT. 3 by the template 'for every input the law returns true; each argument reads behind the call as it read before'; 0 by the template 'total and deterministic' (their statements: YbulkarawTotals.lean).
  GIVEN WITH THE SEED: the statements are not yours to turn. If you find one false, say at which input.
  Laid BY PROGRAM, IN A SANDBOX (cutbox-rows.mjs): the forced cells as the released guide's own fill.sh prints them over the translation b32dba8036e27c0f… (all of the seat's roots in one cut). By AI agents, Wed Nov 11 2026. No macro, syntax, notation, axiom, sorry.
-/
import Derived.Test.YbulkarawChecked
import GoSem.Claim
import GoSem.ClaimJoined
import GoSem.ClaimMapViews
import Derived.JoinedTies
import Derived.KernelRfl
namespace Go.Proofs.Ybulkaraw
/- THE CELL 'sum', in the pinned program and in every row, IS THE sha256 OF THE DUMP (.gsa) THAT YbulkarawProg.lean LOADS. Nothing in Lean hashes anything: it is a label: what it is worth is what the hold of that sum in a sandbox is worth. -/
noncomputable def Yba.pinned : Pinned := { name := "ybulkaraw", sum := "b32dba8036e27c0f32a0278f869542c0f3e3fd496a50d1d3f130c69056f548e3", checked := Yba.checked }
namespace Rows
def none {H : Type} : Left H := { results := [], args := [] }

/-- 'anomaly.LawS2128AArm': WHATEVER THE INPUT: true; the input reads as it did. -/
def lawS2128AArmSpec : ChangeSpec := { name := "lawS2128AArm", fn := fun _ => fun
  | [d1, d2, d3, d4] => { results := [.lit (.bool true)], args := [d1, d2, d3, d4] }
  | _ => none }
def lawS2128AArmRow : OpenClaim := { program := "ybulkaraw", sum := "b32dba8036e27c0f32a0278f869542c0f3e3fd496a50d1d3f130c69056f548e3", func := "example.com/serigraph/serigraph/anomaly.LawS2128AArm", spec := "lawS2128AArm", apart := false }
def LawS2128AArmSaid : Prop := lawS2128AArmRow.holds Yba.pinned (OpenSpec.ofChange lawS2128AArmSpec)

/-- ITS FALSE NEIGHBOUR: 'it returns false'. Refute it at one input. -/
def lawS2128AArmWrong : ChangeSpec := { name := "lawS2128AArm", fn := fun _ => fun
  | [d1, d2, d3, d4] => { results := [.lit (.bool false)], args := [d1, d2, d3, d4] }
  | _ => none }
def LawS2128AArmWrongFalsely : Prop := lawS2128AArmRow.holds Yba.pinned (OpenSpec.ofChange lawS2128AArmWrong)

/-- 'scheduler.LawS2128BWalk': WHATEVER THE INPUT: true; the input reads as it did. -/
def lawS2128BWalkSpec : ChangeSpec := { name := "lawS2128BWalk", fn := fun _ => fun
  | [d1, d2, d3, d4] => { results := [.lit (.bool true)], args := [d1, d2, d3, d4] }
  | _ => none }
def lawS2128BWalkRow : OpenClaim := { program := "ybulkaraw", sum := "b32dba8036e27c0f32a0278f869542c0f3e3fd496a50d1d3f130c69056f548e3", func := "example.com/serigraph/serigraph/scheduler.LawS2128BWalk", spec := "lawS2128BWalk", unfollowed := true, recurses := true, apart := false }
def LawS2128BWalkSaid : Prop := lawS2128BWalkRow.holds Yba.pinned (OpenSpec.ofChange lawS2128BWalkSpec)

/-- ITS FALSE NEIGHBOUR: 'it returns false'. Refute it at one input. -/
def lawS2128BWalkWrong : ChangeSpec := { name := "lawS2128BWalk", fn := fun _ => fun
  | [d1, d2, d3, d4] => { results := [.lit (.bool false)], args := [d1, d2, d3, d4] }
  | _ => none }
def LawS2128BWalkWrongFalsely : Prop := lawS2128BWalkRow.holds Yba.pinned (OpenSpec.ofChange lawS2128BWalkWrong)

/-- 'scheduler.LawS2128BResume': WHATEVER THE INPUT: true; the input reads as it did. -/
def lawS2128BResumeSpec : ChangeSpec := { name := "lawS2128BResume", fn := fun _ => fun
  | [d1, d2, d3, d4, d5] => { results := [.lit (.bool true)], args := [d1, d2, d3, d4, d5] }
  | _ => none }
def lawS2128BResumeRow : OpenClaim := { program := "ybulkaraw", sum := "b32dba8036e27c0f32a0278f869542c0f3e3fd496a50d1d3f130c69056f548e3", func := "example.com/serigraph/serigraph/scheduler.LawS2128BResume", spec := "lawS2128BResume", unfollowed := true, recurses := true, apart := false }
def LawS2128BResumeSaid : Prop := lawS2128BResumeRow.holds Yba.pinned (OpenSpec.ofChange lawS2128BResumeSpec)

/-- ITS FALSE NEIGHBOUR: 'it returns false'. Refute it at one input. -/
def lawS2128BResumeWrong : ChangeSpec := { name := "lawS2128BResume", fn := fun _ => fun
  | [d1, d2, d3, d4, d5] => { results := [.lit (.bool false)], args := [d1, d2, d3, d4, d5] }
  | _ => none }
def LawS2128BResumeWrongFalsely : Prop := lawS2128BResumeRow.holds Yba.pinned (OpenSpec.ofChange lawS2128BResumeWrong)

end Rows
end Go.Proofs.Ybulkaraw

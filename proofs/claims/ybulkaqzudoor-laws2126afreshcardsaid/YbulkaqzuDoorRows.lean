/-
  NARROWER THAN 'FOR EVERY INPUT', by the rows' own cells (each row's printed sentence says how): LawS2126AFresh: laid · LawS2126AScript: laid · LawS2126AFail: laid · LawS2126CNotes: ifaces, laid · LawS2126CReuse: ifaces, laid.
  DERIVED. THE GIVEN ROWS OF THIS SEAT. 5 by the template 'for every input the law returns true; each argument reads behind the call as it read before'; 0 by the template 'total and deterministic' (their statements: YbulkaqzuDoorTotals.lean).
  GIVEN WITH THE SEED: the statements are not yours to turn. If you find one false, say at which input.
  Laid BY PROGRAM, IN A SANDBOX (cutbox-rows.mjs): the forced cells as the released guide's own fill.sh prints them over the translation 36dbb7f71448c61a… (all of the seat's roots in one cut). By AI agents, Wed Nov 11 2026. No macro, syntax, notation, axiom, sorry.
-/
import Derived.Test.YbulkaqzuDoorChecked
import GoSem.Claim
import GoSem.ClaimJoined
import GoSem.ClaimMapViews
import Derived.JoinedTies
import Derived.KernelRfl
namespace Go.Proofs.YbulkaqzuDoor
/- THE CELL 'sum', in the pinned program and in every row, IS THE sha256 OF THE DUMP (.gsa) THAT YbulkaqzuDoorProg.lean LOADS. Nothing in Lean hashes anything: it is a label: what it is worth is what the hold of that sum in a sandbox is worth. -/
noncomputable def Ybad.pinned : Pinned := { name := "ybulkaqzudoor", sum := "36dbb7f71448c61ac30be680b6619f697e71e813532ceaf7b799a7343aa92dde", checked := Ybad.checked }
namespace Rows
def none {H : Type} : Left H := { results := [], args := [] }

/- WHAT THE LISTED PACKAGE-LEVEL VARIABLES READ AS WHEN THE CALL BEGINS. Each datum BY PROGRAM (the guide's laid-datum.mjs) off the statement by which the dump's own 'gosem.cut.vars' lays the variable. In a bare row this is a premise. The card (YbulkaqzuDoorCards.lean) ties it to the program's text. -/
def laid_io_EOF {H : Type} : DataW H := .iface "*errors.errorString" (.ptr (.agg [.lit (.string [69, 79, 70])]))
def laid_example_com_tidewire_tidewire_internal_msglog_errCorrupt {H : Type} : DataW H := .iface "*errors.errorString" (.ptr (.agg [.lit (.string [99, 111, 114, 114, 117, 112, 116, 32, 114, 101, 99, 111, 114, 100])]))

/-- 'msglog.LawS2126AFresh': WHATEVER THE INPUT: true; the input reads as it did. -/
def lawS2126AFreshSpec : ChangeSpec := { name := "lawS2126AFresh", fn := fun _ => fun
  | [d1, d2] => { results := [.lit (.bool true)], args := [d1, d2] }
  | _ => none }
def lawS2126AFreshRow : OpenClaim := { program := "ybulkaqzudoor", sum := "36dbb7f71448c61ac30be680b6619f697e71e813532ceaf7b799a7343aa92dde", func := "example.com/tidewire/tidewire/internal/msglog.LawS2126AFresh", spec := "lawS2126AFresh", unfollowed := true, recurses := true, named := ["io.EOF"], plainKeys := false, apart := false, laid := [("io.EOF", laid_io_EOF)] }
def LawS2126AFreshSaid : Prop := lawS2126AFreshRow.holds Ybad.pinned (OpenSpec.ofChange lawS2126AFreshSpec)

/-- ITS FALSE NEIGHBOUR: 'it returns false'. Refute it at one input. -/
def lawS2126AFreshWrong : ChangeSpec := { name := "lawS2126AFresh", fn := fun _ => fun
  | [d1, d2] => { results := [.lit (.bool false)], args := [d1, d2] }
  | _ => none }
def LawS2126AFreshWrongFalsely : Prop := lawS2126AFreshRow.holds Ybad.pinned (OpenSpec.ofChange lawS2126AFreshWrong)

/-- 'msglog.LawS2126AScript': WHATEVER THE INPUT: true; the input reads as it did. -/
def lawS2126AScriptSpec : ChangeSpec := { name := "lawS2126AScript", fn := fun _ => fun
  | [d1, d2] => { results := [.lit (.bool true)], args := [d1, d2] }
  | _ => none }
def lawS2126AScriptRow : OpenClaim := { program := "ybulkaqzudoor", sum := "36dbb7f71448c61ac30be680b6619f697e71e813532ceaf7b799a7343aa92dde", func := "example.com/tidewire/tidewire/internal/msglog.LawS2126AScript", spec := "lawS2126AScript", unfollowed := true, recurses := true, named := ["io.EOF"], plainKeys := false, apart := false, laid := [("io.EOF", laid_io_EOF)] }
def LawS2126AScriptSaid : Prop := lawS2126AScriptRow.holds Ybad.pinned (OpenSpec.ofChange lawS2126AScriptSpec)

/-- ITS FALSE NEIGHBOUR: 'it returns false'. Refute it at one input. -/
def lawS2126AScriptWrong : ChangeSpec := { name := "lawS2126AScript", fn := fun _ => fun
  | [d1, d2] => { results := [.lit (.bool false)], args := [d1, d2] }
  | _ => none }
def LawS2126AScriptWrongFalsely : Prop := lawS2126AScriptRow.holds Ybad.pinned (OpenSpec.ofChange lawS2126AScriptWrong)

/-- 'msglog.LawS2126AFail': WHATEVER THE INPUT: true; the input reads as it did. -/
def lawS2126AFailSpec : ChangeSpec := { name := "lawS2126AFail", fn := fun _ => fun
  | [d1, d2] => { results := [.lit (.bool true)], args := [d1, d2] }
  | _ => none }
def lawS2126AFailRow : OpenClaim := { program := "ybulkaqzudoor", sum := "36dbb7f71448c61ac30be680b6619f697e71e813532ceaf7b799a7343aa92dde", func := "example.com/tidewire/tidewire/internal/msglog.LawS2126AFail", spec := "lawS2126AFail", unfollowed := true, recurses := true, named := ["io.EOF"], plainKeys := false, apart := false, laid := [("io.EOF", laid_io_EOF)] }
def LawS2126AFailSaid : Prop := lawS2126AFailRow.holds Ybad.pinned (OpenSpec.ofChange lawS2126AFailSpec)

/-- ITS FALSE NEIGHBOUR: 'it returns false'. Refute it at one input. -/
def lawS2126AFailWrong : ChangeSpec := { name := "lawS2126AFail", fn := fun _ => fun
  | [d1, d2] => { results := [.lit (.bool false)], args := [d1, d2] }
  | _ => none }
def LawS2126AFailWrongFalsely : Prop := lawS2126AFailRow.holds Ybad.pinned (OpenSpec.ofChange lawS2126AFailWrong)

/-- 'msglog.LawS2126CNotes': WHATEVER THE INPUT: true; the input reads as it did. -/
def lawS2126CNotesSpec : ChangeSpec := { name := "lawS2126CNotes", vars := ["example.com/tidewire/tidewire/internal/msglog.errCorrupt", "example.com/tidewire/tidewire/internal/msglog.knownFlags"], fn := fun _ => fun
  | [d1, d2, d3, d4, d5, d6, d7, d8, g1, g2] => { results := [.lit (.bool true)], args := [d1, d2, d3, d4, d5, d6, d7, d8], vars := [g1, g2] }
  | _ => none }
def lawS2126CNotesRow : OpenClaim := { program := "ybulkaqzudoor", sum := "36dbb7f71448c61ac30be680b6619f697e71e813532ceaf7b799a7343aa92dde", func := "example.com/tidewire/tidewire/internal/msglog.LawS2126CNotes", spec := "lawS2126CNotes", unfollowed := true, recurses := true, named := ["encoding/binary.LittleEndian", "example.com/tidewire/tidewire/internal/msglog.errCorrupt", "example.com/tidewire/tidewire/internal/msglog.knownFlags"], ifaces := true, plainKeys := false, apart := false, laid := [("example.com/tidewire/tidewire/internal/msglog.errCorrupt", laid_example_com_tidewire_tidewire_internal_msglog_errCorrupt)] }
def LawS2126CNotesSaid : Prop := lawS2126CNotesRow.holds Ybad.pinned (OpenSpec.ofChange lawS2126CNotesSpec)

/-- ITS FALSE NEIGHBOUR: 'it returns false'. Refute it at one input. -/
def lawS2126CNotesWrong : ChangeSpec := { name := "lawS2126CNotes", vars := ["example.com/tidewire/tidewire/internal/msglog.errCorrupt", "example.com/tidewire/tidewire/internal/msglog.knownFlags"], fn := fun _ => fun
  | [d1, d2, d3, d4, d5, d6, d7, d8, g1, g2] => { results := [.lit (.bool false)], args := [d1, d2, d3, d4, d5, d6, d7, d8], vars := [g1, g2] }
  | _ => none }
def LawS2126CNotesWrongFalsely : Prop := lawS2126CNotesRow.holds Ybad.pinned (OpenSpec.ofChange lawS2126CNotesWrong)

/-- 'msglog.LawS2126CReuse': WHATEVER THE INPUT: true; the input reads as it did. -/
def lawS2126CReuseSpec : ChangeSpec := { name := "lawS2126CReuse", vars := ["example.com/tidewire/tidewire/internal/msglog.errCorrupt", "example.com/tidewire/tidewire/internal/msglog.knownFlags"], fn := fun _ => fun
  | [d1, d2, d3, d4, d5, d6, g1, g2] => { results := [.lit (.bool true)], args := [d1, d2, d3, d4, d5, d6], vars := [g1, g2] }
  | _ => none }
def lawS2126CReuseRow : OpenClaim := { program := "ybulkaqzudoor", sum := "36dbb7f71448c61ac30be680b6619f697e71e813532ceaf7b799a7343aa92dde", func := "example.com/tidewire/tidewire/internal/msglog.LawS2126CReuse", spec := "lawS2126CReuse", unfollowed := true, recurses := true, named := ["encoding/binary.LittleEndian", "example.com/tidewire/tidewire/internal/msglog.errCorrupt", "example.com/tidewire/tidewire/internal/msglog.knownFlags"], ifaces := true, plainKeys := false, apart := false, laid := [("example.com/tidewire/tidewire/internal/msglog.errCorrupt", laid_example_com_tidewire_tidewire_internal_msglog_errCorrupt)] }
def LawS2126CReuseSaid : Prop := lawS2126CReuseRow.holds Ybad.pinned (OpenSpec.ofChange lawS2126CReuseSpec)

/-- ITS FALSE NEIGHBOUR: 'it returns false'. Refute it at one input. -/
def lawS2126CReuseWrong : ChangeSpec := { name := "lawS2126CReuse", vars := ["example.com/tidewire/tidewire/internal/msglog.errCorrupt", "example.com/tidewire/tidewire/internal/msglog.knownFlags"], fn := fun _ => fun
  | [d1, d2, d3, d4, d5, d6, g1, g2] => { results := [.lit (.bool false)], args := [d1, d2, d3, d4, d5, d6], vars := [g1, g2] }
  | _ => none }
def LawS2126CReuseWrongFalsely : Prop := lawS2126CReuseRow.holds Ybad.pinned (OpenSpec.ofChange lawS2126CReuseWrong)

end Rows
end Go.Proofs.YbulkaqzuDoor

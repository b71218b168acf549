/-
  '(*window).from': an empty buffer at the end.
-/
import Derived.Test.YbulkaqzuDoorReady
namespace Go.Proofs.YbulkaqzuDoor
open Go.RowKit

set_option maxRecDepth 100000 in
set_option maxHeartbeats 1600000 in
theorem from_nil (base rb wb : Nat) (dV eV : Value) (size : Nat) (oV : Value) (offs : List Int) (w : World) (_hl : size ≤ 1024)
    (hr : Ready base rb wb size size dV eV oV offs (.slice none 0 0) w w) :
    Calls Ybad.prog 8 #[.pointer (some ⟨wb, 0, none⟩), .int .i64 size] w fun e w' => e = .returned (.tuple #[.slice none 0 0, .nilIface]) ∧
      Ready base rb wb size size dV eV oV offs (.slice none 0 0) w w' := by
  have c0 := c40 hr.win
  have c1 := c41 hr.win
  have c2 := c42 hr.win
  have c3 := c43 hr.win
  have c4 := c3f hr.win
  go_enter Ybad.func8, Ybad.ntmps8
  go_wp2
  go_quiet (fail)
  go_wp2
  go_quiet (fail)
  go_wp2
  go_ret2
  exact ⟨rfl, (hr.drewN _).drewN _⟩
end Go.Proofs.YbulkaqzuDoor

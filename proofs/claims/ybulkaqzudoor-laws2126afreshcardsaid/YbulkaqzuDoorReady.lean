/-
  THE WINDOW AND ITS READER, AHEAD OF '(*window).from'.
-/
import Derived.Test.YbulkaqzuDoorRead
import Derived.Deep.RegionWith
import Derived.OwnWalk
namespace Go.Proofs.YbulkaqzuDoor
open Go.RowKit

abbrev RdI (rb : Nat) : Value := .iface 25 (.pointer (some ⟨rb, 0, none⟩))

theorem method_readAt (rb : Nat) (w : World) : (method 280 25 (.pointer (some ⟨rb, 0, none⟩)) "ReadAt").run Ybad.prog w = .ok (49, .pointer (some ⟨rb, 0, none⟩)) w := by kernel_rfl

/-- The window and the reader. -/
structure Ready (base rb wb : Nat) (size at0 : Int) (dV eV oV : Value) (offs : List Int) (bV : Value) (w W : World) : Prop where
  win : W.heap[wb]? = some (.cells #[RdI rb, I64 size, I64 at0, bV] 35 (0, 0))
  rd : W.heap[rb]? = some (.cells #[dV, eV, oV] 30 (0, 0))
  own : W.ownsRow base 2 1 oV offs.length (offs.map I64)
  below : Below base w W
  big : base ≤ W.heap.size

section
variable {base rb wb : Nat} {size at0 : Int} {dV eV oV bV : Value} {offs : List Int} {w W W' : World}

theorem Ready.drewN (h : Ready base rb wb size at0 dV eV oV offs bV w W) (q : Nat) : Ready base rb wb size at0 dV eV oV offs bV w (W.drewN q) :=
  ⟨h.win, h.rd, h.own, below_drewN h.below q, h.big⟩

theorem Ready.set3 (h : Ready base rb wb size at0 dV eV oV offs bV w W) (hwb : base ≤ wb) (v : Value) : Ready base rb wb size at0 dV eV oV offs v w (W.setCell ⟨wb, 3, none⟩ v) := by
  refine ⟨by simpa using setCell_block (o := 3) h.win v, kept_at (grown_setCell W _ v) h.rd ?_, h.own.kept (grown_setCell W _ v) (.inr (fun e => row_ne h.own h.win (by decide) e.symm)), h.below.setCell (p := ⟨wb, 3, none⟩) hwb v, by simpa [World.setCell] using h.big⟩
  intro e
  simp at e
  have := h.rd
  rw [e, h.win] at this
  simp at this

theorem Ready.set2 (h : Ready base rb wb size at0 dV eV oV offs bV w W) (hwb : base ≤ wb) (v : Int) : Ready base rb wb size v dV eV oV offs bV w (W.setCell ⟨wb, 2, none⟩ (.int .i64 v)) := by
  refine ⟨by simpa using setCell_block (o := 2) h.win (.int .i64 v), kept_at (grown_setCell W _ _) h.rd ?_, h.own.kept (grown_setCell W _ _) (.inr (fun e => row_ne h.own h.win (by decide) e.symm)), h.below.setCell (p := ⟨wb, 2, none⟩) hwb _, by simpa [World.setCell] using h.big⟩
  intro e
  simp at e
  have := h.rd
  rw [e, h.win] at this
  simp at this

theorem Ready.made (h : Ready base rb wb size at0 dV eV oV offs bV w W) (hg : W.grownBy W' none) : Ready base rb wb size at0 dV eV oV offs bV w W' :=
  ⟨kept_at hg h.win (by simp), kept_at hg h.rd (by simp), h.own.kept hg (by cases e : oV.ownBlock with | none => exact .inl rfl | some k => exact .inr (by simp)), h.below.grown hg h.big (fun j e => by cases e), Nat.le_trans h.big hg.size⟩

/-- A block of bytes is kept at a store into the window. -/
theorem bytes_kept {g o : Nat} {cur : Array Value} (h : Ready base rb wb size at0 dV eV oV offs bV w W) (hg : W.heap[g]? = some (.cells cur 5 (0, 0))) (v : Value) : (W.setCell ⟨wb, o, none⟩ v).heap[g]? = some (.cells cur 5 (0, 0)) := by
  refine kept_at (grown_setCell W _ v) hg ?_
  intro e
  simp at e
  rw [e, h.win] at hg
  simp at hg

theorem Ready.read {off : Int} (h : Ready base rb wb size at0 dV eV oV offs bV w W) (hl : ReadLeft base rb dV eV offs off W W') : ∃ oV', Ready base rb wb size at0 dV eV oV' (offs ++ [off]) bV w W' := by
  obtain ⟨oV', h1, h2⟩ := hl.rd
  exact ⟨oV', hl.keep _ _ h.win, h1, by simpa using h2, h.below.trans hl.below, Nat.le_trans h.big hl.below.size⟩
end

/-- What 'make' has left. -/
theorem made_block {base n g : Nat} {w : World} (h : w.ownsRow base 5 1 (.slice (some ⟨g, 0, none⟩) n n) n (madeCells (Value.int .u8 0).cells (n * 1)).toList) : base ≤ g ∧ ∃ cur : Array Value, w.heap[g]? = some (.cells cur 5 (0, 0)) ∧ cur.size = n := by
  rcases h.2 with ⟨h1, _⟩ | ⟨g', cap, cur, h1, h2, h3, h4⟩
  · cases h1
  · injection h1 with e1 e2 e3
    injection e1 with e1
    injection e1 with e1
    subst e1 e3
    exact ⟨h2, cur, h3, by have := h4.2.2.1; omega⟩

end Go.Proofs.YbulkaqzuDoor

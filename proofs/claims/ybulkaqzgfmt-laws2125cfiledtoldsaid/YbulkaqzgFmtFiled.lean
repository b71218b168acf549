/-
  THE CONTRACTS OF fmt.Errorf (at the one call), '(*indexedStore).filed' AND '(*indexedStore).ByIndex' WHERE THE INDEX IS NOT THERE.
-/
import Derived.Test.YbulkaqzgFmtBuild
import Derived.Test.YbulkaqzgFmtFacts
import Derived.Test.YbulkaqzgFmtLocks
import Derived.Conc.RwLone
import Derived.Defers
namespace Go.Proofs.YbulkaqzgFmt
open Go.RowKit Go.StrMap Go.Extern.Stop Go.Stop Go.Extern Go.RwLone

theorem errorf_any (F : Interp) (s : ByteArray) (g : Nat) (w : World) (hF : F.answers w.tape) (hc : w.cell? ⟨g, 0, none⟩ = some (.iface 9 (.string s))) :
    Calls Ybaf.prog 23 #[.string ⟨#[99, 97, 99, 104, 101, 58, 32, 110, 111, 32, 105, 110, 100, 101, 120, 32, 110, 97, 109, 101, 100, 32, 37, 113]⟩, .slice (some ⟨g, 0, none⟩) 1 1] w fun e w' => e = .returned (.iface 105 (.pointer (some ⟨w.heap.size, 0, none⟩))) ∧ Below w.heap.size w w' := by
  have hF' : ∀ i name reading k range, w.tape i (.extern (word name reading k) range) = F name reading k := hF
  go_enter Ybaf.func23, Ybaf.ntmps23
  go_wp2
  go_ret
  exact ⟨rfl, ((Below.refl _ _).alloc (Nat.le_refl _) _).drew⟩

def idx : ByteArray := ⟨#[105, 100, 120]⟩

theorem filed_no (F : Interp) (x xi xm : Nat) (nm v : ByteArray) (w : World) (hF : F.answers w.tape) (hn : nm ≠ idx)
    (hc : w.cell? ⟨x, 8, none⟩ = some (.map (some xm))) (hm : w.heap[xm]? = some (mapObj [(idx, .pointer (some ⟨xi, 0, none⟩))])) :
    Calls Ybaf.prog 13 #[.pointer (some ⟨x, 0, none⟩), .string nm, .string v] w fun e w' => ∃ a, e = .returned (.tuple #[.map none, .iface 105 (.pointer (some a))]) ∧ Below w.heap.size w w' := by
  have hg : getL nm [(idx, Value.pointer (some ⟨xi, 0, none⟩))] = none := by simp [getL, Ne.symm hn]
  have Hg : Hid (getL nm [(idx, Value.pointer (some ⟨xi, 0, none⟩))] = none) := hg
  clear hg
  go_enter Ybaf.func13, Ybaf.ntmps13
  go_wp2_with (first
    | (at_lookup; refine wpList_lookup _ rfl _ _ 55 true rfl 9 50 Ybaf.underlying55 Ybaf.underlying9 (.pointer none) (Ybaf.zeroValue50 _) xm _ rfl hm nm rfl (.tuple #[.pointer none, .bool false]) (by rw [Hg.out]; rfl) ?_)
    | (go_at_call 23; refine (errorf_any F nm w.heap.size _ (by exact hF) (by simp)).mono ?_; rintro e w1 ⟨rfl, hb1⟩))
  go_ret2
  exact ⟨_, rfl, ((Below.refl _ _).alloc (Nat.le_refl _) _).trans (hb1.mono (by simp))⟩

theorem rlock_at (x : Nat) (x1 x4 : Value) (w : World) (c1 : w.cell? ⟨x, 1, none⟩ = some x1) (c4 : w.cell? ⟨x, 4, none⟩ = some x4) (c5 : w.cell? ⟨x, 5, none⟩ = some (.int .i32 0)) (hz : w.frozen? ⟨x, 5, none⟩ = false) :
    Calls Ybaf.prog 11 #[.pointer (some ⟨x, 1, none⟩)] w fun e w' => e = .returned (.tuple #[]) ∧ w' = w.setCell ⟨x, 5, none⟩ (.int .i32 1) :=
by
  have e1 : wrap32 (0 + 1) = 1 := by unfold wrap32; rfl
  have h := rlock_open Ybaf.rwRLib x 1 0 x1 x4 w c1 c4 c5 hz (by rw [e1]; decide)
  rw [e1] at h
  exact h

theorem runlock_at (x : Nat) (x1 x3 : Value) (u : FrameMode) (w : World) (c1 : w.cell? ⟨x, 1, none⟩ = some x1) (c3 : w.cell? ⟨x, 3, none⟩ = some x3) (c5 : w.cell? ⟨x, 5, none⟩ = some (.int .i32 1)) (hz : w.frozen? ⟨x, 5, none⟩ = false) :
    CallsD Ybaf.prog 12 #[.pointer (some ⟨x, 1, none⟩)] u w fun e u' w' => u' = u ∧ (e = .returned (.tuple #[]) ∧ w' = w.setCell ⟨x, 5, none⟩ (.int .i32 0)) :=
by
  have e1 : wrap32 (1 + -1) = 0 := by unfold wrap32; rfl
  have h := runlock_deferred Ybaf.rwRLib x 1 1 x1 x3 u w c1 c3 c5 hz (by rw [e1]; decide)
  rw [e1] at h
  exact h

theorem byIndex_no (F : Interp) (B : Nat) (ps : List (Nat × Nat)) (x xi xm : Nat) (ob sb : ByteArray → Nat) (vv : ByteArray → Value) (nm v : ByteArray) (w : World) (hF : F.answers w.tape) (hn : nm ≠ idx)
    (hS : Store B w ps x xi xm ob sb vv) :
    Calls Ybaf.prog 7 #[.pointer (some ⟨x, 0, none⟩), .string nm, .string v] w fun e w' => ∃ a, e = .returned (.tuple #[.slice none 0 0, .iface 105 (.pointer (some a))]) ∧ Below x w w' := by
  have hx := lt_of_some hS.st
  have c1 : w.cell? ⟨x, 1, none⟩ = some (.int .i32 0) := by simp [World.cell?, hS.st]
  have c3 : w.cell? ⟨x, 3, none⟩ = some (.int .u32 0) := by simp [World.cell?, hS.st]
  have c4 : w.cell? ⟨x, 4, none⟩ = some (.int .u32 0) := by simp [World.cell?, hS.st]
  have c5 : w.cell? ⟨x, 5, none⟩ = some (.int .i32 0) := by simp [World.cell?, hS.st]
  have c8 : w.cell? ⟨x, 8, none⟩ = some (.map (some xm)) := by simp [World.cell?, hS.st]
  have fz : ∀ o, w.frozen? ⟨x, o, none⟩ = false := by intro o; simp [World.frozen?, hS.st]
  have hne : xm ≠ x := by
    intro e
    have := hS.ix
    rw [e, hS.st] at this
    simp [mapObj] at this
  have hix : (w.setCell ⟨x, 5, none⟩ (.int .i32 1)).heap[xm]? = some (mapObj [(idx, .pointer (some ⟨xi, 0, none⟩))]) := (Below.heap_setCell w _ _ _ hne).trans hS.ix
  have c8' : (w.setCell ⟨x, 5, none⟩ (.int .i32 1)).cell? ⟨x, 8, none⟩ = some (.map (some xm)) := (World.cell?_setCell_other _ ⟨x, 5, none⟩ ⟨x, 8, none⟩ _ (by simp)).trans c8
  go_enter_defers Ybaf.func7, Ybaf.ntmps7
  go_wp2_with (first
    | (go_at_call 11; refine (rlock_at x _ _ _ c1 c4 c5 (fz _)).mono ?_; rintro e w' ⟨rfl, rfl⟩)
    | (go_at_call 13; refine (filed_no F x xi xm nm v _ (by exact hF) hn c8' hix).mono ?_; rintro e w1 ⟨a, rfl, hb1⟩))
  refine leaves_cons (f := 12) (args := #[.pointer (some ⟨x, 1, none⟩)]) (by simp) (by simp [go_sem]) ?_
  have hx1 : x < (w.setCell ⟨x, 5, none⟩ (.int .i32 1)).heap.size := by simpa [World.setCell] using hx
  refine (runlock_at x (.int .i32 0) (.int .u32 0) .returning _ ?_ ?_ ?_ ?_).mono ?_
  · exact (hb1.cell (p := ⟨x, 1, none⟩) hx1).trans ((World.cell?_setCell_other _ ⟨x, 5, none⟩ ⟨x, 1, none⟩ _ (by simp)).trans c1)
  · exact (hb1.cell (p := ⟨x, 3, none⟩) hx1).trans ((World.cell?_setCell_other _ ⟨x, 5, none⟩ ⟨x, 3, none⟩ _ (by simp)).trans c3)
  · exact (hb1.cell (p := ⟨x, 5, none⟩) hx1).trans (World.cell?_setCell_same w ⟨x, 5, none⟩ _ c5)
  · exact (hb1.frozen (p := ⟨x, 5, none⟩) hx1).trans ((World.frozen?_setCell _ _ _ _).trans (fz 5))
  rintro e u' w'' ⟨rfl, rfl, rfl⟩
  exact ⟨_, results_tmp2 rfl _ _ _, _, rfl, (((Below.refl x w).setCell (p := ⟨x, 5, none⟩) (Nat.le_refl _) _).trans (hb1.mono (Nat.le_of_lt hx1))).setCell (p := ⟨x, 5, none⟩) (Nat.le_refl _) _⟩
end Go.Proofs.YbulkaqzgFmt

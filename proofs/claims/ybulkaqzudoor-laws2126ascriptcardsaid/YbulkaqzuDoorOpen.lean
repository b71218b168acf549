/-
  WHAT THE ROWS OF THIS SEAT SHARE: the listed variable's cell, a world that meets the condition, a slice of integers that came in.
-/
import Derived.Test.YbulkaqzuDoorRows
import Derived.Test.YbulkaqzuDoorRead
import Derived.ProofKit
import Derived.ChangeSame
import Derived.ChangeVars
import Derived.ChangeSlices
import Derived.JoinedOf
import Derived.RowKit
import Derived.RowKitTokens
import Derived.LaidLaws
import Derived.LaidHandle
import Derived.SizedLaws
namespace Go.Proofs.YbulkaqzuDoor
open Go.ChangeShapes Go.WideShapes Go.ChangeAt Go.RowKit Go.ChangeShapes

theorem Ybad.own : ownKnob Ybad.prog.godebug = none := by kernel_rfl
theorem Ybad.laidOut : laidOutB Ybad.prog = true := by kernel_rfl
theorem Ybad.eof : Ybad.prog.globalNamed "io.EOF" = some 0 := by kernel_rfl
theorem Ybad.eofType : (Ybad.prog.globals[0]?).map (·.type) = some 27 := by kernel_rfl
theorem Ybad.cells104 : Ybad.prog.cellsOf 104 = 1 := by kernel_rfl
theorem Ybad.cells9 : Ybad.prog.cellsOf 9 = 1 := by kernel_rfl
theorem Ybad.cells5 : Ybad.prog.cellsOf 5 = 1 := by kernel_rfl
theorem Ybad.cells23 : Ybad.prog.cellsOf 23 = 1 := by kernel_rfl
theorem Ybad.star : "*" ++ "errors.errorString" = "*errors.errorString" := by decide
theorem Ybad.row102 (u : TypeId) (h : Ybad.prog.typeName? 3 u = some "*errors.errorString") : u = 102 :=
  typeName_ptr_named (nm := "errors.errorString") (by rw [Ybad.star]; kernel_rfl) (by kernel_rfl) (by decide) u (by rw [Ybad.star]; exact h)

abbrev laid1 : List (String × DataW Unit) := [("io.EOF", Rows.laid_io_EOF)]

set_option maxRecDepth 100000 in
/-- WHAT THE CONDITION GIVES A WALK. -/
theorem eof_of_laid {W : World} (h : laidMet Ybad.prog laid1 W) :
    ∃ (a0 : Addr) (c0 : Array Value) (t0 : TypeId), W.cell? ⟨0, 0, none⟩ = some (.iface 102 (.pointer (some a0))) ∧ W.heap[a0.block]? = some (.cells c0 t0 (0, 0)) := by
  obtain ⟨ps, ⟨g0, t0, cs0, f0, p0, q0, hg0, ht0, hv0, hd0, _, e0⟩, _, hrows⟩ := h
  obtain rfl := Option.some.inj (Ybad.eof.symm.trans hg0)
  obtain rfl := Option.some.inj (Ybad.eofType.symm.trans ht0)
  subst e0
  obtain ⟨l0⟩ := cs0
  have ok0 : ∀ u v, l0 = [.iface u v] → Value.okWide Ybad.prog W .any 0 u v := fun u v e => by
    subst e
    exact (hrows 0 0 (by simp [MemPlace.row])).2 u v (by simpa using World.var?_cell hg0 hv0 0)
  obtain ⟨a0, s0, rfl, hc0, hs0, hz0, rfl⟩ := errorString_of_trod Ybad.underlying27 Ybad.row102 Ybad.underlying102 Ybad.underlying104 rfl rfl Ybad.underlying9 Ybad.cells104 Ybad.cells9 hd0 ok0
  obtain ⟨c0, t0, hb0⟩ := (hrows a0.block a0.off (by simp [MemPlace.row])).1
  exact ⟨a0, c0, t0, by simpa using World.var?_cell Ybad.eof hv0 0, hb0⟩

noncomputable def low : Nat := (World.holding Ybad.prog default ⟨#[], #[], []⟩).heap.size

/-- A world that meets the condition. -/
noncomputable def laidWorld (os : Os) : World :=
  let w0 := World.holding Ybad.prog os ⟨#[.cells #[.string { data := #[69, 79, 70] }] 104], #[], []⟩
  { w0 with heap := w0.heap.modify 0 fun
      | .cells _ t frozen => .cells #[.iface 102 (.pointer (some ⟨low, 0, none⟩))] t frozen
      | o => o }

theorem laidWorld_met (os : Os) (args : Array Value) : laidMet Ybad.prog laid1 ((laidWorld os).forCall (fun _ _ => 0) ⟨#[], args, []⟩).memory :=
  laidMet_of_run (ps := [.cell 0 0, .cell low 0]) 8 (by kernel_rfl) (by kernel_rfl) (by kernel_rfl)

/-- A SLICE OF INTEGERS, OPENED. -/
theorem open_row {H : Type} {enc : TypeId × Value → H} {W : World} {a0 : Option Addr} {len cap fuel : Nat} {d0 : DataW H} {p0 : List MemPlace} {t e : TypeId} {k : IntKind} (ht : Ybad.prog.underlying t = some (.slice e)) (he : Ybad.prog.underlying e = some (.int k)) (hc : Ybad.prog.cellsOf e = 1)
    (hf : DataW.trod enc Ybad.prog W 0 (fun _ => true) true fuel t (Value.slice a0 len cap).cells.toList = some (d0, p0)) :
    ∃ zs : List Int, zs.length = len ∧ len ≤ cap ∧ len ≤ maxLen ∧ (∀ z ∈ zs, (Lit.int k z).wf = true) ∧
      (zs ≠ [] → ∃ b off, a0 = some ⟨b, off, none⟩ ∧ b < W.heap.size ∧ ∀ j, j < zs.length → W.cell? ⟨b, off + j, none⟩ = some (.int k (zs.getD j 0))) := by
  rcases open_ints ht he hc hf with ⟨hcs, _⟩ | ⟨a, len', cap', zs, hcs, _, hl, hm, hz, _, hcell, hwz⟩
  · simp [Value.cells] at hcs
    obtain ⟨rfl, rfl, rfl⟩ := hcs
    exact ⟨[], rfl, Nat.le_refl _, by simp [maxLen], by simp, by simp⟩
  · simp [Value.cells] at hcs
    obtain ⟨rfl, rfl, rfl⟩ := hcs
    simp only [if_true] at hz
    refine ⟨zs.take len, by simp; omega, hl, by omega, fun z hz => hwz z (List.mem_of_mem_take hz), fun hne => ?_⟩
    have hpos : 0 < zs.length := by
      rcases zs with _ | ⟨z, r⟩
      · simp at hne
      · simp
    obtain ⟨b, off, spot⟩ := a
    have hspot : spot = none := by simpa [Addr.add] using World.cell?_spot (hcell 0 hpos)
    subst hspot
    refine ⟨b, off, rfl, World.block_lt_of_cell? W _ (hcell 0 hpos), fun j hj => ?_⟩
    simp at hj
    have h1 := hcell j (by omega)
    rw [Addr.add_lit] at h1
    rw [h1, List.getD_eq_getElem?_getD, List.getD_eq_getElem?_getD, List.getElem?_take, if_pos (by omega)]
end Go.Proofs.YbulkaqzuDoor

/-
  THE STEPS, OPENED: a slice of structs of two fields.
-/
import Derived.Test.YbulkarawRows
import Derived.Test.YbulkarawLaws
import Derived.ProofKit
import Derived.OpenShut
import Derived.Carry
import Derived.ChangeSlices
import Derived.Deep.Grids
import Derived.Deep.SlicePairs
namespace Go.Proofs.Ybulkaraw
open Go.ChangeShapes Go.WideShapes Go.ChangeAt Go.RowKit Go.Deep

theorem Yba.ownKnob : Go.ownKnob Yba.prog.godebug = none := by kernel_rfl
theorem Yba.laid : laidOutB Yba.prog = true := by kernel_rfl
theorem Yba.cellsOf3 : Yba.prog.cellsOf 3 = 1 := by kernel_rfl
theorem Yba.cellsOf5 : Yba.prog.cellsOf 5 = 1 := by kernel_rfl
theorem Yba.cellsOf70 : Yba.prog.cellsOf 70 = 2 := by kernel_rfl

/-- What the walks ask of the steps. -/
structure StepsAt (W : World) (so : Option Addr) (len cap : Nat) (b off : Nat) (O : Nat → Nat) (A : Nat → Int) : Prop where
  at' : 0 < len → so = some ⟨b, off, none⟩
  lt : 0 < len → b < W.heap.size
  le : len ≤ cap
  c0 : ∀ i, i < len → W.cell? ⟨b, off + i * 2, none⟩ = some (.int .u8 (O i))
  c1 : ∀ i, i < len → W.cell? ⟨b, off + i * 2 + 1, none⟩ = some (.int .i64 (A i))
  o : ∀ i, i < len → O i < 256
  a : ∀ i, i < len → -9223372036854775808 ≤ A i ∧ A i < 9223372036854775808

theorem open_steps {H : Type} {enc : TypeId × Value → H} {W : World} {a0 : Option Addr} {len cap fuel : Nat} {d0 : DataW H} {p0 : List MemPlace}
    (hf : DataW.trod enc Yba.prog W 0 (fun _ => true) true fuel 47 (Value.slice a0 len cap).cells.toList = some (d0, p0)) :
    ∃ b off O A, StepsAt W a0 len cap b off O A := by
  rcases open_slice_pairs Yba.underlying47 Yba.underlying70 Yba.cellsOf70 rfl rfl Yba.cellsOf5 Yba.cellsOf3 hf with ⟨hcs, _⟩ | ⟨a, len', cap', m, n, V0, V1, D0, D1, P0, P1, hcs, _, hl, hm, hmm, hx, hcell⟩
  · simp [Value.cells] at hcs
    obtain ⟨rfl, rfl, rfl⟩ := hcs
    exact ⟨0, 0, fun _ => 0, fun _ => 0, ⟨by simp, by simp, Nat.le_refl _, by simp, by simp, by simp, by simp⟩⟩
  · simp [Value.cells] at hcs
    obtain ⟨rfl, rfl, rfl⟩ := hcs
    simp only [if_true] at hmm
    subst hmm
    have each : ∀ i, i < len → ∃ q : Nat × Int, V0 i = .int .u8 q.1 ∧ V1 i = .int .i64 q.2 ∧ q.1 < 256 ∧ -9223372036854775808 ≤ q.2 ∧ q.2 < 9223372036854775808 := by
      intro i hi
      obtain ⟨_, _, h0, h1⟩ := hcell i (by omega)
      obtain ⟨x, e0, _, w0⟩ := DataW.trod_int Yba.underlying5 h0
      obtain ⟨y, e1, _, w1⟩ := DataW.trod_int Yba.underlying3 h1
      simp at e0 e1
      have b0 : 0 ≤ x ∧ x ≤ 255 := by simpa [Lit.wf, IntKind.min, IntKind.max, IntKind.signed, IntKind.bits] using w0
      have b1 : -9223372036854775808 ≤ y ∧ y ≤ 9223372036854775807 := by simpa [Lit.wf, IntKind.min, IntKind.max, IntKind.signed, IntKind.bits] using w1
      refine ⟨(x.toNat, y), ?_, e1, by simp; omega, b1.1, by simp; omega⟩
      rw [e0]; congr 1; simp; omega
    obtain ⟨q, hq⟩ := choose_lt each
    obtain ⟨b, off, spot⟩ := a
    have hspot : 0 < len → spot = none := fun hpos => by simpa [Addr.add] using World.cell?_spot (hcell 0 (by omega)).1
    have hcs : ∀ i, i < len → W.cell? ⟨b, off + i * 2, none⟩ = some (V0 i) ∧ W.cell? ⟨b, off + i * 2 + 1, none⟩ = some (V1 i) := by
      intro i hi
      obtain ⟨g0, g1, _⟩ := hcell i (by omega)
      obtain rfl := hspot (by omega)
      rw [Addr.add_lit] at g0 g1
      exact ⟨g0, by rw [Nat.add_assoc]; exact g1⟩
    exact ⟨b, off, fun i => (q i).1, fun i => (q i).2, ⟨fun hpos => by rw [hspot hpos], fun hpos => World.block_lt_of_cell? W _ (hcs 0 hpos).1, hl, fun i hi => by rw [(hcs i hi).1, (hq i hi).1], fun i hi => by rw [(hcs i hi).2, (hq i hi).2.1], fun i hi => (hq i hi).2.2.1, fun i hi => (hq i hi).2.2.2⟩⟩

theorem byte_nat {z : Int} (w : (Lit.int .u8 z).wf = true) : ∃ n : Nat, z = n ∧ n < 256 := by
  have b0 : 0 ≤ z ∧ z ≤ 255 := by simpa [Lit.wf, IntKind.min, IntKind.max, IntKind.signed, IntKind.bits] using w
  exact ⟨z.toNat, by omega, by omega⟩
end Go.Proofs.Ybulkaraw

/-
  THE WALK OF 'LawS2125CNoIndex'.
-/
import Derived.Test.YbulkaqzgFmtFiled
import Derived.Deep.QuietTactic
import Derived.BigQuiet
namespace Go.Proofs.YbulkaqzgFmt
open Go.RowKit Go.StrMap Go.Extern.Stop Go.Stop Go.Extern

/-- What the slice of pairs holds. -/
structure PairsAt (w : World) (ao : Option Addr) (ps : List (Nat × Nat)) : Prop where
  lt : ∀ i, (ps.getD i (0, 0)).1 < 256 ∧ (ps.getD i (0, 0)).2 < 256
  cells : ps ≠ [] → ∃ b off, ao = some ⟨b, off, none⟩ ∧ b < w.heap.size ∧ (∀ i, i < ps.length → w.cell? ⟨b, off + i * 2, none⟩ = some (.int .u8 (ps.getD i (0, 0)).1)) ∧
    (∀ i, i < ps.length → w.cell? ⟨b, off + i * 2 + 1, none⟩ = some (.int .u8 (ps.getD i (0, 0)).2))

theorem build_all (ao : Option Addr) (ps : List (Nat × Nat)) (cap : Nat) (w : World) (hp : PairsAt w ao ps) (hn : ps.length ≤ 1024) :
    Calls Ybaf.prog 5 #[.slice ao ps.length cap] w fun e w' => ∃ x xi xm ob sb vv, e = .returned (.pointer (some ⟨x, 0, none⟩)) ∧ Store w.heap.size w' ps x xi xm ob sb vv ∧ Below w.heap.size w w' := by
  by_cases h : ps = []
  · subst h
    exact build_none ao cap w
  · obtain ⟨b, off, rfl, hb, h0, h1⟩ := hp.cells h
    exact build_any b off ps cap w hb hn h0 h1 hp.lt

theorem noIndex_long (ao : Option Addr) (n cap : Nat) (nm : ByteArray) (q : Nat) (w : World) (hn : 1024 < n) (hm : n ≤ maxLen) :
    Calls Ybaf.prog 4 #[.slice ao n cap, .string nm, .int .u8 q] w fun e w' => e = .returned (.bool true) ∧ Below w.heap.size w w' := by
  unfold maxLen at hm
  go_enter Ybaf.func4, Ybaf.ntmps4
  go_wp2
  go_ret
  exact ⟨rfl, Below.refl _ _⟩

set_option maxRecDepth 100000 in
set_option maxHeartbeats 800000 in
theorem noIndex_short (F : Interp) (ao : Option Addr) (ps : List (Nat × Nat)) (cap : Nat) (nm : ByteArray) (q : Nat) (hq : q < 256) (w : World) (hF : F.answers w.tape) (hp : PairsAt w ao ps) (hn : ps.length ≤ 1024) :
    Calls Ybaf.prog 4 #[.slice ao ps.length cap, .string nm, .int .u8 q] w fun e w' => e = .returned (.bool true) ∧ Below w.heap.size w w' := by
  have heqs := fun (w : World) (a : Option Addr) (n c : Nat) => Lib.run_eql_slice_nil (P := Ybaf.prog) w 26 33 a n c 0 0 Ybaf.underlying26
  have hidy : (⟨#[105, 100, 121]⟩ : ByteArray) ≠ idx := by decide
  by_cases hnm : (nm.toList == [105, 100, 120]) = true
  · go_enter Ybaf.func4, Ybaf.ntmps4
    go_wp2_with (first
      | (go_at_call 5; refine (build_all ao ps cap _ hp hn).mono ?_; rintro e w1 ⟨x, xi, xm, ob, sb, vv, rfl, hS, hb1⟩)
      | (go_at_call 6; refine (val_any q hq _).mono ?_; rintro e w' ⟨rfl, hw'⟩; subst hw')
      | (go_at_call 7; refine (byIndex_no F w.heap.size ps x xi xm ob sb vv _ _ _ (by rw [hb1.tape]; exact hF) hidy hS).mono ?_; rintro e w2 ⟨a, rfl, hb2⟩))
    go_ret
    exact ⟨rfl, hb1.trans (hb2.mono (Nat.le_trans (Nat.le_add_right _ 3) hS.bx))⟩
  · have hne : nm ≠ idx := by
      intro e
      subst e
      exact hnm (by decide +kernel)
    have hnm' : (nm.toList == [105, 100, 120]) = false := by simpa using hnm
    clear hnm
    go_enter Ybaf.func4, Ybaf.ntmps4
    go_wp2_with (first
      | (go_at_call 5; refine (build_all ao ps cap _ hp hn).mono ?_; rintro e w1 ⟨x, xi, xm, ob, sb, vv, rfl, hS, hb1⟩)
      | (go_at_call 6; refine (val_any q hq _).mono ?_; rintro e w' ⟨rfl, hw'⟩; subst hw')
      | (go_at_call 7; refine (byIndex_no F w.heap.size ps x xi xm ob sb vv _ _ _ (by rw [hb1.tape]; exact hF) hne hS).mono ?_; rintro e w2 ⟨a, rfl, hb2⟩))
    go_ret
    exact ⟨rfl, hb1.trans (hb2.mono (Nat.le_trans (Nat.le_add_right _ 3) hS.bx))⟩
end Go.Proofs.YbulkaqzgFmt

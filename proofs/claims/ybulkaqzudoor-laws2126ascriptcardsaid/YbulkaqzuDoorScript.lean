/-
  THE WALK OF 'LawS2126AScript'.
-/
import Derived.Test.YbulkaqzuDoorFresh
namespace Go.Proofs.YbulkaqzuDoor
open Go.RowKit

/-- What the slice of steps holds. -/
structure Steps (w : World) (base : Nat) (oao : Option Addr) (us : List Nat) : Prop where
  lt : ∀ i, us.getD i 0 < 65536
  cells : us ≠ [] → ∃ b off, oao = some ⟨b, off, none⟩ ∧ b < base ∧ ∀ j, j < us.length → w.cell? ⟨b, off + j, none⟩ = some (.int .u16 (us.getD j 0 : Nat))

section
variable {base rb wb : Nat} {zs : List Int} {dV : Value} {at0 : Nat} {offs : List Int} {w w' W : World}

theorem Win.here (h : Win base rb wb zs dV at0 offs w W) : Win base rb wb zs dV at0 offs W W := by
  obtain ⟨h1, oV, bV, hr, hb⟩ := h
  exact ⟨h1, oV, bV, ⟨hr.win, hr.rd, hr.own, Below.refl _ _, hr.big⟩, hb⟩

theorem Win.below (h : Win base rb wb zs dV at0 offs w W) : Below base w W := by
  obtain ⟨_, _, _, hr, _⟩ := h
  exact hr.below

theorem Win.after (h : Below base w' w) (k : Win base rb wb zs dV at0 offs w W) : Win base rb wb zs dV at0 offs w' W := by
  obtain ⟨h1, oV, bV, hr, hb⟩ := k
  exact ⟨h1, oV, bV, ⟨hr.win, hr.rd, hr.own, h.trans hr.below, hr.big⟩, hb⟩

theorem Win.drewN (h : Win base rb wb zs dV at0 offs w W) (q : Nat) : Win base rb wb zs dV at0 offs w (W.drewN q) := by
  obtain ⟨h1, oV, bV, hr, hb⟩ := h
  refine ⟨h1, oV, bV, hr.drewN q, ?_⟩
  rcases hb with rfl | ⟨g, bn, bcap, rfl, hR⟩
  · exact .inl rfl
  · exact .inr ⟨g, bn, bcap, rfl, ⟨hR.ends, hR.fits, hR.big, hR.block⟩⟩
end

theorem script_long (ao oao : Option Addr) (n cap m ocap : Nat) (w : World) (hn : 1024 < n ∨ 256 < m) (hm : n ≤ maxLen) (hm2 : m ≤ maxLen) :
    Calls Ybad.prog 4 #[.slice ao n cap, .slice oao m ocap] w fun e w' => e = .returned (.bool true) ∧ Below w.heap.size w w' := by
  unfold maxLen at hm hm2
  by_cases h : 1024 < n
  · go_enter Ybad.func4, Ybad.ntmps4
    go_wp2
    go_ret
    exact ⟨rfl, Below.refl _ _⟩
  · have h2 : 256 < m := by omega
    go_enter Ybad.func4, Ybad.ntmps4
    go_wp2
    go_ret
    exact ⟨rfl, Below.refl _ _⟩

set_option maxRecDepth 100000 in
set_option maxHeartbeats 1600000 in
theorem script_short (dao oao : Option Addr) (zs : List Int) (us : List Nat) (dcap ocap : Nat) (w : World) (hl : zs.length ≤ 1024) (hul : us.length ≤ 256) (hdc : zs.length ≤ dcap) (hD : Bytes w w.heap.size dao zs) (hU : Steps w w.heap.size oao us) :
    Calls Ybad.prog 4 #[.slice dao zs.length dcap, .slice oao us.length ocap] w fun e w' => e = .returned (.bool true) ∧ Below w.heap.size w w' := by
  have hb1 := below_new w (RObj (.slice dao zs.length dcap) .nilIface) (WObj w.heap.size zs.length)
  have hw1 : Win w.heap.size w.heap.size (w.heap.size + 1) zs (.slice dao zs.length dcap) 0 [] w ((w.alloc (RObj (.slice dao zs.length dcap) .nilIface)).alloc (WObj w.heap.size zs.length)) :=
    Win.after hb1 ⟨Nat.zero_le _, _, _, ready_new w _ _ _, .inl rfl⟩
  have HD : Hid (Bytes w w.heap.size dao zs) := hD
  clear hD hb1
  go_enter Ybad.func4, Ybad.ntmps4
  go_wp2
  go_loopw [8] (fun u wr => ∃ (i at0 : Nat) (offs : List Int), u = .int .i64 i ∧ i ≤ us.length ∧ offs.length ≤ i ∧ Win w.heap.size w.heap.size (w.heap.size + 1) zs (.slice dao zs.length dcap) at0 offs w wr)
    (fun u _ => match u with | .int _ k => (us.length - k).toNat | _ => 0)
  case atStart => exact ⟨0, 0, [], rfl, Nat.zero_le _, Nat.le_refl _, hw1⟩
  case round =>
    obtain ⟨i, at0, offs, rfl, hi, hol, hW⟩ := hrel
    clear hw1
    rcases Nat.lt_or_eq_of_le hi with hlt | heq
    · obtain ⟨ob, ooff, rfl, hob, huc⟩ := hU.cells (by intro e; simp [e] at hlt)
      obtain ⟨x, hx⟩ : ∃ x, x = us.getD i 0 := ⟨_, rfl⟩
      have hc1 : wr.cell? ⟨ob, ooff + i, none⟩ = some (.int .u16 x) := by rw [hx]; exact (hW.below.cell (p := ⟨ob, _, none⟩) hob).trans (huc i hlt)
      have hx2 : x < 65536 := by rw [hx]; exact hU.lt i
      clear hx huc
      obtain ⟨q, hq⟩ : ∃ q, q = x % (zs.length + 1) := ⟨_, rfl⟩
      have hqlt : q < zs.length + 1 := by rw [hq]; exact Nat.mod_lt _ (by omega)
      obtain ⟨n, hn⟩ : ∃ n, q + n = zs.length := ⟨zs.length - q, by omega⟩
      have hm : (x : Int) % (zs.length + 1) = (q : Int) := by rw [hq]; norm_cast
      have hn0 : (zs.length : Int) - q = n := by omega
      have hn1 : (n : Int) ≤ 16777224 := by omega
      clear hq
      have hnl : n ≤ 1024 := by omega
      have Hn : Hid (q + n = zs.length) := hn
      clear hn
      go_wp2_with (first
        | (go_at_call 8; refine (from_ok w.heap.size w.heap.size (w.heap.size + 1) dao zs dcap offs at0 q n _ hl (by omega) hdc (HD.out.kept hW.below) (Nat.le_refl _) (by omega) hW.here Hn.out).mono ?_; rintro e w2 ⟨ao, cap, at1, offs', rfl, hP, hW2, hof⟩; have hW3 := Win.after hW.below hW2)
        | (go_at_call 9; refine (same_spec ao dao zs n cap dcap q _ hl Hn.out hP (part_of_bytes (HD.out.kept hW3.below))).mono ?_; rintro e w3 ⟨rfl, m, rfl⟩))
      refine ⟨⟨i + 1, at1, offs', by simp, hlt, ?_, hW3.drewN _⟩, ?_⟩
      · rcases hof with rfl | rfl
        · omega
        · simp; omega
      · show ((us.length : Int) - (i + 1)).toNat < ((us.length : Int) - i).toNat
        omega
    · subst heq
      go_wp2
      go_ret
      exact ⟨rfl, hW.below⟩
end Go.Proofs.YbulkaqzuDoor

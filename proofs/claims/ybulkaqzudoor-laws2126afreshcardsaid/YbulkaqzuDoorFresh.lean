/-
  THE WALK OF 'LawS2126AFresh'.
-/
import Derived.Test.YbulkaqzuDoorWin
namespace Go.Proofs.YbulkaqzuDoor
open Go.RowKit

abbrev RObj (dV eV : Value) : Obj := .cells #[dV, eV, .slice none 0 0] 30
abbrev WObj (rb : Nat) (size : Int) : Obj := .cells #[RdI rb, I64 size, I64 0, .slice none 0 0] 35

theorem ready_new (w : World) (dV eV : Value) (size : Int) : Ready w.heap.size w.heap.size (w.heap.size + 1) size (0 : Nat) dV eV (.slice none 0 0) [] (.slice none 0 0) ((w.alloc (RObj dV eV)).alloc (WObj w.heap.size size)) ((w.alloc (RObj dV eV)).alloc (WObj w.heap.size size)) := by
  refine ⟨?_, ?_, World.ownsRow_nil _ _ _ _, Below.refl _ _, by simp; omega⟩
  · show ((w.heap.push _).push _)[w.heap.size + 1]? = _
    rw [Array.getElem?_push, if_pos (by simp)]
    rfl
  · show ((w.heap.push _).push _)[w.heap.size]? = _
    simp [Array.getElem?_push]

theorem below_new (w : World) (o1 o2 : Obj) : Below w.heap.size w ((w.alloc o1).alloc o2) := ((Below.refl _ _).alloc (Nat.le_refl _) _).alloc (by simp) _

theorem row_value {w : World} {base e n : Nat} {v : Value} {xs : List Value} (h : w.ownsRow base e 1 v n xs) : ∃ ao cap, v = .slice ao n cap := by
  rcases h.2 with ⟨h1, h2⟩ | ⟨g, cap, cur, h1, _⟩
  · exact ⟨none, 0, by rw [h1, h2]⟩
  · exact ⟨_, cap, h1⟩

/-- One offset was noted. -/
theorem offs_one {base rb wb : Nat} {size at0 : Int} {dV eV oV bV : Value} {q : Int} {w W : World} (h : Ready base rb wb size at0 dV eV oV [q] bV w W) : ∃ g cap, oV = .slice (some ⟨g, 0, none⟩) 1 cap ∧ W.cell? ⟨g, 0, none⟩ = some (.int .i64 q) := by
  obtain ⟨g, cap, rfl⟩ := ownsRow_one (k := 0) h.own
  exact ⟨g, cap, rfl, by simpa [Addr.add] using h.own.cells (g := g) rfl 0 (.int .i64 q) (by simp)⟩

theorem part_of_bytes {w : World} {base : Nat} {dao : Option Addr} {zs : List Int} (h : Bytes w base dao zs) : Part w dao zs 0 zs.length :=
  ⟨fun hp => by
    obtain ⟨b, off, h1, _, h3⟩ := h.cells (by intro e; simp [e] at hp)
    exact ⟨b, off, h1, fun j hj => by simpa using h3 j hj⟩⟩

theorem fresh_long (ao : Option Addr) (n cap : Nat) (x : Int) (w : World) (hn : 1024 < n) (hm : n ≤ maxLen) :
    Calls Ybad.prog 3 #[.slice ao n cap, .int .u16 x] w fun e w' => e = .returned (.bool true) ∧ Below w.heap.size w w' := by
  unfold maxLen at hm
  go_enter Ybad.func3, Ybad.ntmps3
  go_wp2
  go_ret
  exact ⟨rfl, Below.refl _ _⟩

set_option maxRecDepth 100000 in
set_option maxHeartbeats 1600000 in
theorem fresh_short (dao : Option Addr) (zs : List Int) (dcap : Nat) (x : Nat) (w : World) (hl : zs.length ≤ 1024) (hdc : zs.length ≤ dcap) (hx : x < 65536) (hD : Bytes w w.heap.size dao zs) :
    Calls Ybad.prog 3 #[.slice dao zs.length dcap, .int .u16 x] w fun e w' => e = .returned (.bool true) ∧ Below w.heap.size w w' := by
  obtain ⟨q, hq⟩ : ∃ q, q = x % (zs.length + 1) := ⟨_, rfl⟩
  have hqlt : q < zs.length + 1 := by rw [hq]; exact Nat.mod_lt _ (by omega)
  obtain ⟨n, hn⟩ : ∃ n, q + n = zs.length := ⟨zs.length - q, by omega⟩
  have hb1 := below_new w (RObj (.slice dao zs.length dcap) .nilIface) (WObj w.heap.size zs.length)
  have hm : (x : Int) % (zs.length + 1) = (q : Int) := by rw [hq]; norm_cast
  have hn0 : (zs.length : Int) - q = n := by omega
  have hn1 : (n : Int) ≤ 33554448 := by omega
  clear hq
  have hnl : n ≤ 1024 := by omega
  have Hn : Hid (q + n = zs.length) := hn
  clear hn
  have HD : Hid (Bytes w w.heap.size dao zs) := hD
  clear hD
  by_cases hz : zs.length = 0
  · have Hz : Hid (zs.length = 0) := hz
    clear hz
    go_enter Ybad.func3, Ybad.ntmps3
    go_wp2_with (first
      | (go_at_call 8; refine (from_fresh w.heap.size w.heap.size (w.heap.size + 1) dao zs dcap _ q n _ hl hdc (HD.out.kept hb1) (Nat.le_refl _) (by omega) (ready_new w _ _ _) Hn.out).mono ?_; rintro e w2 ⟨ao, cap, at1, oV', bV', rfl, hP, hr2⟩; rw [if_pos Hz.out] at hr2; obtain ⟨oa, ocap, ho⟩ := row_value hr2.own; simp only [List.length_nil] at ho; subst ho; have hD2 := (HD.out.kept hb1).kept hr2.below; have e0 := c30 hr2.rd; have e1 := c31 hr2.rd; have e2 := c32 hr2.rd)
      | (go_at_call 9; refine (same_spec ao dao zs n cap dcap q _ hl Hn.out hP (part_of_bytes hD2)).mono ?_; rintro e w3 ⟨rfl, m, rfl⟩; have hz' := Hz.out))
    go_ret
    exact ⟨rfl, below_drewN (hb1.trans hr2.below) _⟩
  · have hz' : ¬ ((zs.length : Int) = 0) := by omega
    go_enter Ybad.func3, Ybad.ntmps3
    go_wp2_with (first
      | (go_at_call 8; refine (from_fresh w.heap.size w.heap.size (w.heap.size + 1) dao zs dcap _ q n _ hl hdc (HD.out.kept hb1) (Nat.le_refl _) (by omega) (ready_new w _ _ _) Hn.out).mono ?_; rintro e w2 ⟨ao, cap, at1, oV', bV', rfl, hP, hr2⟩; rw [if_neg hz] at hr2; obtain ⟨og, ocap, ho, hoc⟩ := offs_one hr2; subst ho; have hD2 := (HD.out.kept hb1).kept hr2.below; have e0 := c30 hr2.rd; have e1 := c31 hr2.rd; have e2 := c32 hr2.rd)
      | (go_at_call 9; refine (same_spec ao dao zs n cap dcap q _ hl Hn.out hP (part_of_bytes hD2)).mono ?_; rintro e w3 ⟨rfl, m, rfl⟩))
    go_ret
    exact ⟨rfl, below_drewN (hb1.trans hr2.below) _⟩
end Go.Proofs.YbulkaqzuDoor

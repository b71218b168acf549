/-
  THE WALK OF 'LawS2126AFail'.
-/
import Derived.Test.YbulkaqzuDoorFresh
import Derived.Test.YbulkaqzuDoorErr
namespace Go.Proofs.YbulkaqzuDoor
open Go.RowKit

abbrev EObj : Obj := .cells #[.string { data := #[122, 122] }] 104

theorem new_zz (w : World) : Calls Ybad.prog 10 #[.string { data := #[122, 122] }] w fun e w' => e = .returned (.iface 102 (.pointer (some ⟨w.heap.size, 0, none⟩))) ∧ w' = w.alloc EObj := by
  go_enter Ybad.func10, Ybad.ntmps10
  go_wp2
  go_ret
  exact ⟨rfl, rfl⟩

theorem fail_long (ao : Option Addr) (n cap : Nat) (x : Int) (w : World) (hn : 1024 < n) (hm : n ≤ maxLen) :
    Calls Ybad.prog 5 #[.slice ao n cap, .int .u16 x] w fun e w' => e = .returned (.bool true) ∧ Below w.heap.size w w' := by
  unfold maxLen at hm
  go_enter Ybad.func5, Ybad.ntmps5
  go_wp2
  go_ret
  exact ⟨rfl, Below.refl _ _⟩

set_option maxRecDepth 100000 in
set_option maxHeartbeats 1600000 in
theorem fail_short (dao : Option Addr) (zs : List Int) (dcap : Nat) (x : Nat) (w : World) (a0 : Addr) (c0 : Array Value) (t0 : TypeId) (hl : zs.length ≤ 1024) (hx : x < 65536)
    (hE : w.cell? ⟨0, 0, none⟩ = some (.iface 102 (.pointer (some a0)))) (h0 : 0 < w.heap.size) (ha0 : w.heap[a0.block]? = some (.cells c0 t0 (0, 0))) :
    Calls Ybad.prog 5 #[.slice dao zs.length dcap, .int .u16 x] w fun e w' => e = .returned (.bool true) ∧ Below w.heap.size w w' := by
  obtain ⟨q, hq⟩ : ∃ q, q = x % (zs.length + 1) := ⟨_, rfl⟩
  have hqlt : q < zs.length + 1 := by rw [hq]; exact Nat.mod_lt _ (by omega)
  obtain ⟨n, hn⟩ : ∃ n, q + n = zs.length := ⟨zs.length - q, by omega⟩
  have hb0 : Below w.heap.size w (w.alloc EObj) := (Below.refl _ _).alloc (Nat.le_refl _) _
  have hb1 := below_new (w.alloc EObj) (RObj (.slice dao zs.length dcap) (.iface 102 (.pointer (some ⟨w.heap.size, 0, none⟩)))) (WObj (w.alloc EObj).heap.size zs.length)
  have hr1 := ready_new (w.alloc EObj) (.slice dao zs.length dcap) (.iface 102 (.pointer (some ⟨w.heap.size, 0, none⟩))) zs.length
  have heb : (w.alloc EObj).heap[w.heap.size]? = some EObj := by
    show (w.heap.push _)[w.heap.size]? = _
    simp
  have hsz : (w.alloc EObj).heap.size = w.heap.size + 1 := by simp
  rw [hsz] at hb1 hr1
  have hm : (x : Int) % (zs.length + 1) = (q : Int) := by rw [hq]; norm_cast
  have hal := lt_of_some ha0
  have hlift : Below w.heap.size w (((w.alloc EObj).alloc (RObj (.slice dao zs.length dcap) (.iface 102 (.pointer (some ⟨w.heap.size, 0, none⟩))))).alloc (WObj (w.heap.size + 1) zs.length)) := hb0.trans (hb1.mono (by omega))
  clear hq
  have Hn : Hid (q + n = zs.length) := hn
  clear hn
  have heqs := fun (w : World) (a : Option Addr) (n c : Nat) => Lib.run_eql_slice_nil (P := Ybad.prog) w 22 5 a n c 0 0 Ybad.underlying22
  have heqe := fun (w : World) (a : Addr) => eql_same (w := w) a
  by_cases hz : zs.length = 0
  · obtain rfl : q = zs.length := by omega
    have Hz : Hid (zs.length = 0) := hz
    clear hz
    have hz0 : ((0 : Nat) : Int) = (zs.length : Nat) := by have := Hz.out; omega
    have hr1' := hr1
    rw [hz0] at hr1'
    go_enter Ybad.func5, Ybad.ntmps5
    go_wp2_with (first
      | (go_at_call 10; refine (new_zz _).mono ?_; rintro e w' ⟨rfl, rfl⟩)
      | (go_at_call 8; refine (from_nil (w.heap.size + 1) (w.heap.size + 1) (w.heap.size + 1 + 1) _ _ zs.length _ [] _ hl hr1').mono ?_; rintro e w2 ⟨rfl, hr2⟩; have e0 := c30 hr2.rd; have e1 := c31 hr2.rd; have e2 := c32 hr2.rd; have hz' := Hz.out))
    go_ret
    exact ⟨rfl, hlift.trans (hr2.below.mono (by omega))⟩
  · have hz' : ¬ ((zs.length : Int) = 0) := by omega
    go_enter Ybad.func5, Ybad.ntmps5
    go_wp2_with (first
      | (go_at_call 10; refine (new_zz _).mono ?_; rintro e w' ⟨rfl, rfl⟩)
      | (go_at_call 8; refine (from_err (w.heap.size + 1) (w.heap.size + 1) (w.heap.size + 1 + 1) dao zs dcap _ w.heap.size a0 c0 _ t0 _ q n _ hl hr1 (Nat.le_refl _) (by omega) ((hlift.cell (p := ⟨0, 0, none⟩) h0).trans hE) (by omega) ((hlift.block _ hal).trans ha0) (by omega) ((hb1.block _ (by omega)).trans heb) (by omega) (by omega) Hn.out (by omega)).mono ?_; rintro e w2 ⟨oV', bV, rfl, hr2⟩; obtain ⟨og, ocap, ho, hoc⟩ := offs_one hr2; subst ho; have e0 := c30 hr2.rd; have e1 := c31 hr2.rd; have e2 := c32 hr2.rd))
    go_ret
    exact ⟨rfl, hlift.trans (hr2.below.mono (by omega))⟩
end Go.Proofs.YbulkaqzuDoor

/-
  '(*window).from': the reader fails.
-/
import Derived.Test.YbulkaqzuDoorReady
import Derived.LaidEql
namespace Go.Proofs.YbulkaqzuDoor
open Go.RowKit

theorem Ybad.comp102 : (Ybad.prog.info? 102).map (·.comparable) = some true := by kernel_rfl
theorem Ybad.size104 : (Ybad.prog.info? 104).map (·.size) = some 1 := by kernel_rfl

theorem neq_other {w : World} {a b : Addr} {ca cb : Array Value} {ta tb : TypeId} (hne : a ≠ b) (ha : w.heap[a.block]? = some (.cells ca ta (0, 0))) (hb : w.heap[b.block]? = some (.cells cb tb (0, 0))) :
    (binOp .neq 27 (.iface 102 (.pointer (some a))) (.iface 102 (.pointer (some b)))).run Ybad.prog w = .ok (.bool true) w := by
  obtain ⟨i, hi, hc⟩ := Option.map_eq_some_iff.1 Ybad.comp102
  obtain ⟨j, hj, hs⟩ := Option.map_eq_some_iff.1 Ybad.size104
  simp only [binOp]
  simp [Op.equal, Op.maxDepth, run_equalIn_iface_ptr_other w 9998 Ybad.underlying27 Ybad.underlying102 hi hc hj (by rw [hs]; decide) hne ha hb]

theorem eql_same {w : World} (a : Addr) : (binOp .eql 27 (.iface 102 (.pointer (some a))) (.iface 102 (.pointer (some a)))).run Ybad.prog w = .ok (.bool true) w := by
  obtain ⟨i, hi, hc⟩ := Option.map_eq_some_iff.1 Ybad.comp102
  obtain ⟨j, hj, _⟩ := Option.map_eq_some_iff.1 Ybad.size104
  exact run_eql_iface_ptr_same w a Ybad.underlying27 Ybad.underlying102 hi hc hj

set_option maxRecDepth 100000 in
set_option maxHeartbeats 1600000 in
theorem from_err (base rb wb : Nat) (dao : Option Addr) (zs : List Int) (dcap : Nat) (oV : Value) (eb : Nat) (a0 : Addr) (c0 c1 : Array Value) (t0 t1 : TypeId) (p n : Nat) (w : World) (_hl : zs.length ≤ 1024)
    (hr : Ready base rb wb zs.length (0 : Nat) (.slice dao zs.length dcap) (.iface 102 (.pointer (some ⟨eb, 0, none⟩))) oV [] (.slice none 0 0) w w) (hrb : base ≤ rb) (hwb : base ≤ wb)
    (hE : w.cell? ⟨0, 0, none⟩ = some (.iface 102 (.pointer (some a0)))) (hb0 : 0 < base) (ha0 : w.heap[a0.block]? = some (.cells c0 t0 (0, 0))) (hal : a0.block < base) (heb : w.heap[eb]? = some (.cells c1 t1 (0, 0))) (hel : eb < base) (hne : eb ≠ a0.block)
    (hp : p + n = zs.length) (hz : 0 < zs.length) :
    Calls Ybad.prog 8 #[.pointer (some ⟨wb, 0, none⟩), .int .i64 p] w fun e w' => ∃ oV' bV, e = .returned (.tuple #[.slice none 0 0, .iface 102 (.pointer (some ⟨eb, 0, none⟩))]) ∧
      Ready base rb wb zs.length (0 : Nat) (.slice dao zs.length dcap) (.iface 102 (.pointer (some ⟨eb, 0, none⟩))) oV' [(p : Int)] bV w w' := by
  have c0 := c40 hr.win
  have c1 := c41 hr.win
  have c2 := c42 hr.win
  have c3 := c43 hr.win
  have c4 := c3f hr.win
  obtain ⟨i0, hi, hz0, hz1, hz2⟩ := info_parts Ybad.info5
  have hbig : 0 < p + 16777224 := by omega
  have hn0 : ((zs.length : Int) - p) = (n : Int) := by omega
  have hn1 : (n : Int) ≤ 33554448 := by omega
  have Hp : Hid (p + n = zs.length) := hp
  have hnl : n ≤ 1024 := by omega
  clear hp
  rcases Nat.eq_zero_or_pos n with hn | hpos
  · subst hn
    go_enter Ybad.func8, Ybad.ntmps8
    go_wp2
    go_quiet (fail)
    go_wp2
    have hr7 := (hr.drewN nq).set3 hwb (.slice none 0 0)
    generalize (w.drewN nq).setCell ⟨wb, 3, none⟩ (.slice none 0 0) = W7 at hr7 ⊢
    clear c0 c1 c2 c3 c4
    have c0 := c40 hr7.win
    have c1 := c41 hr7.win
    have c2 := c42 hr7.win
    have c3 := c43 hr7.win
    have c4 := c3f hr7.win
    have hm := method_readAt rb
    have hcall := readAt_err base rb dao none zs dcap oV [] 0 0 102 (.pointer (some ⟨eb, 0, none⟩)) p W7.drew (by simp) hr7.rd hr7.own hr7.big hrb
    go_region_with (go_at_call 49; refine hcall.mono ?_; rintro e w8 ⟨rfl, hl8⟩; have hr8 := (hr7.drewN 1).read (W' := w8) hl8; obtain ⟨oV8, hr8⟩ := hr8; have d0 := c40 hr8.win; have d1 := c41 hr8.win; have d2 := c42 hr8.win; have d3 := c43 hr8.win; have d4 := c3f hr8.win; have d5 := (hr8.below.cell (p := ⟨0, 0, none⟩) hb0).trans hE; have d6 := neq_other (a := ⟨eb, 0, none⟩) (b := a0) (fun e => hne (congrArg Addr.block e)) ((hr8.below.block _ hel).trans heb) ((hr8.below.block _ hal).trans ha0))
    all_goals
      go_wp2
      go_ret2
      exact ⟨_, _, rfl, hr8⟩
  · go_enter Ybad.func8, Ybad.ntmps8
    go_wp2
    go_quiet (fail)
    go_wp2_with (first
      | (at_make; refine wpList_make_full _ rfl _ _ 22 rfl base 5 i0 (.int .u8 0) 1 Ybad.underlying22 hi hz0 hz1 .i64 .i64 (n : Int) (n : Int) n rfl rfl rfl rfl (by rw [hz2]; omega) (by unfold maxLen; omega) hr.big ?_; intro w5 hown5 hg5; have hr5 := (hr.drewN _).made hg5; have d0 := c40 hr5.win; have d1 := c41 hr5.win; have d2 := c42 hr5.win; have d3 := c43 hr5.win; have d4 := c3f hr5.win))
    have hr7 := (hr5.set3 hwb (.slice (some ⟨w.heap.size, 0, none⟩) n n)).set3 hwb (.slice (some ⟨w.heap.size, 0, none⟩) n n)
    generalize (w5.setCell ⟨wb, 3, none⟩ (.slice (some ⟨w.heap.size, 0, none⟩) n n)).setCell ⟨wb, 3, none⟩ (.slice (some ⟨w.heap.size, 0, none⟩) n n) = W7 at hr7 ⊢
    clear c0 c1 c2 c3 c4 d0 d1 d2 d3 d4 hown5 hg5 hr5
    have c0 := c40 hr7.win
    have c1 := c41 hr7.win
    have c2 := c42 hr7.win
    have c3 := c43 hr7.win
    have c4 := c3f hr7.win
    have hm := method_readAt rb
    have hcall := readAt_err base rb dao (some ⟨w.heap.size, 0, none⟩) zs dcap oV [] n n 102 (.pointer (some ⟨eb, 0, none⟩)) p W7.drew (by simp) hr7.rd hr7.own hr7.big hrb
    go_region_with (go_at_call 49; refine hcall.mono ?_; rintro e w8 ⟨rfl, hl8⟩; have hr8 := (hr7.drewN 1).read (W' := w8) hl8; obtain ⟨oV8, hr8⟩ := hr8; have d0 := c40 hr8.win; have d1 := c41 hr8.win; have d2 := c42 hr8.win; have d3 := c43 hr8.win; have d4 := c3f hr8.win; have d5 := (hr8.below.cell (p := ⟨0, 0, none⟩) hb0).trans hE; have d6 := neq_other (a := ⟨eb, 0, none⟩) (b := a0) (fun e => hne (congrArg Addr.block e)) ((hr8.below.block _ hel).trans heb) ((hr8.below.block _ hal).trans ha0))
    all_goals
      go_wp2
      go_ret2
      exact ⟨_, _, rfl, hr8⟩
end Go.Proofs.YbulkaqzuDoor

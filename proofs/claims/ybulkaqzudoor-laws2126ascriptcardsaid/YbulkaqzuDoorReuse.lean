/-
  '(*window).from': the buffer is wide enough.
-/
import Derived.Test.YbulkaqzuDoorReady
namespace Go.Proofs.YbulkaqzuDoor
open Go.RowKit

set_option maxRecDepth 100000 in
set_option maxHeartbeats 1600000 in
theorem from_reuse (base rb wb : Nat) (db doff : Nat) (zs : List Int) (dcap : Nat) (oV : Value) (offs : List Int) (at0 : Nat) (g bn bcap : Nat) (cur : Array Value) (p n : Nat) (w : World) (_hl : zs.length ≤ 1024) (hol : offs.length ≤ 1024) (hdc : zs.length ≤ dcap)
    (hr : Ready base rb wb zs.length at0 (.slice (some ⟨db, doff, none⟩) zs.length dcap) .nilIface oV offs (.slice (some ⟨g, 0, none⟩) bn bcap) w w) (hD : ∀ j, j < zs.length → w.cell? ⟨db, doff + j, none⟩ = some (B8 (zs.getD j 0))) (hdb : db < base) (hrb : base ≤ rb) (hwb : base ≤ wb)
    (hab : at0 + bn ≤ zs.length) (hp : p + n = zs.length) (hpos : 0 < n) (hc : n ≤ bcap) (hG : w.heap[g]? = some (.cells cur 5 (0, 0))) (hcs : cur.size = bcap) (hbg : base ≤ g) (hread : p < at0 ∨ at0 + bn < zs.length) :
    Calls Ybad.prog 8 #[.pointer (some ⟨wb, 0, none⟩), .int .i64 p] w fun e w' => ∃ oV' cur, e = .returned (.tuple #[.slice (some ⟨g, 0, none⟩) n bcap, .nilIface]) ∧
      Ready base rb wb zs.length p (.slice (some ⟨db, doff, none⟩) zs.length dcap) .nilIface oV' (offs ++ [(p : Int)]) (.slice (some ⟨g, 0, none⟩) n bcap) w w' ∧
      w'.heap[g]? = some (.cells ((zs.drop p).map B8 ++ cur).toArray 5 (0, 0)) ∧ n + cur.length = bcap := by
  have c0 := c40 hr.win
  have c1 := c41 hr.win
  have c2 := c42 hr.win
  have c3 := c43 hr.win
  have c4 := c3f hr.win
  obtain ⟨i0, hi, hz0, hz1, hz2⟩ := info_parts Ybad.info5
  have hbig : at0 + bn < p + 16777224 := by omega
  have hn0 : ((zs.length : Int) - p) = (n : Int) := by omega
  have hn1 : (n : Int) ≤ 33554448 := by omega
  have hrd : (at0 ≤ p ∧ at0 + bn < zs.length) ∨ ¬ at0 ≤ p := by omega
  clear hread
  have Hp : Hid (p + n = zs.length) := hp
  have hnl : n ≤ 1024 := by omega
  clear hp
  have HD := id hD
  rcases hrd with ⟨h1, h2⟩ | h1
  all_goals
    go_enter Ybad.func8, Ybad.ntmps8
    go_wp2
    go_quiet (fail)
    go_wp2
    have hG7 := bytes_kept (o := 3) (hr.drewN nq) hG (.slice (some ⟨g, 0, none⟩) n bcap)
    have hr7 := (hr.drewN nq).set3 hwb (.slice (some ⟨g, 0, none⟩) n bcap)
    generalize (w.drewN nq).setCell ⟨wb, 3, none⟩ (.slice (some ⟨g, 0, none⟩) n bcap) = W7 at hr7 hG7 ⊢
    clear c0 c1 c2 c3 c4
    have c0 := c40 hr7.win
    have c1 := c41 hr7.win
    have c2 := c42 hr7.win
    have c3 := c43 hr7.win
    have c4 := c3f hr7.win
    have hm := method_readAt rb
    have hcall := readAt_some base rb g db doff zs dcap oV offs n bcap p cur W7.drew _hl hol hdc hpos hr7.rd hr7.own (fun j hj => (hr7.below.cell (p := ⟨db, _, none⟩) hdb).trans (HD j hj)) hdb hr7.big hG7 (by omega) hbg Hp.out hrb
    go_region_with (go_at_call 49; refine hcall.mono ?_; rintro e w8 ⟨rfl, hl8, hG8⟩; have hr8 := (hr7.drewN 1).read (W' := w8) hl8; obtain ⟨oV8, hr8⟩ := hr8; have d0 := c40 hr8.win; have d1 := c41 hr8.win; have d2 := c42 hr8.win; have d3 := c43 hr8.win; have d4 := c3f hr8.win)
    all_goals
      have hr10 := hr8.set2 hwb (p : Int)
      have hG10 := bytes_kept (o := 2) hr8 hG8 (.int .i64 p)
      go_wp2
      go_quiet (fail)
      go_wp2
      go_ret2
      exact ⟨_, _, rfl, hr10.drewN _, hG10, by simp; omega⟩
end Go.Proofs.YbulkaqzuDoor

/-
  '(*window).from': nothing is left to read; nothing is read.
-/
import Derived.Test.YbulkaqzuDoorReady
namespace Go.Proofs.YbulkaqzuDoor
open Go.RowKit

set_option maxRecDepth 100000 in
set_option maxHeartbeats 1600000 in
theorem from_zero (base rb wb : Nat) (dao : Option Addr) (zs : List Int) (dcap : Nat) (oV : Value) (offs : List Int) (at0 : Nat) (p : Nat) (w : World) (_hl : zs.length ≤ 1024) (hol : offs.length ≤ 1024) (hdc : zs.length ≤ dcap)
    (hr : Ready base rb wb zs.length at0 (.slice dao zs.length dcap) .nilIface oV offs (.slice none 0 0) w w) (hrb : base ≤ rb) (hwb : base ≤ wb)
    (hp : p = zs.length) (hread : at0 < zs.length) :
    Calls Ybad.prog 8 #[.pointer (some ⟨wb, 0, none⟩), .int .i64 p] w fun e w' => ∃ oV', e = .returned (.tuple #[.slice none 0 0, .nilIface]) ∧
      Ready base rb wb zs.length p (.slice dao zs.length dcap) .nilIface oV' (offs ++ [(p : Int)]) (.slice none 0 0) w w' := by
  have c0 := c40 hr.win
  have c1 := c41 hr.win
  have c2 := c42 hr.win
  have c3 := c43 hr.win
  have c4 := c3f hr.win
  have hbig : at0 < p + 16777224 := by omega
  have hn0 : ((zs.length : Int) - p) = 0 := by omega
  have h1 : at0 ≤ p := by omega
  have Hp : Hid (p = zs.length) := hp
  clear hp
  go_enter Ybad.func8, Ybad.ntmps8
  go_wp2
  go_quiet (fail)
  go_wp2
  have hr7 := (hr.drewN nq).set3 hwb (.slice none 0 0)
  generalize (w.drewN nq).setCell ⟨wb, 3, none⟩ (.slice none 0 0) = W7 at hr7 ⊢
  clear c0 c1 c2 c3 c4
  have c0 := c40 hr7.win
  have c1 := c41 hr7.win
  have c2 := c42 hr7.win
  have c3 := c43 hr7.win
  have c4 := c3f hr7.win
  have hm := method_readAt rb
  have hcall := readAt_zero base rb dao none zs dcap oV offs 0 p W7.drew _hl hol hdc hr7.rd hr7.own hr7.big Hp.out hrb
  go_region_with (go_at_call 49; refine hcall.mono ?_; rintro e w8 ⟨rfl, hl8⟩; have hr8 := (hr7.drewN 1).read (W' := w8) hl8; obtain ⟨oV8, hr8⟩ := hr8; have d0 := c40 hr8.win; have d1 := c41 hr8.win; have d2 := c42 hr8.win; have d3 := c43 hr8.win; have d4 := c3f hr8.win)
  all_goals
    have hr10 := hr8.set2 hwb (p : Int)
    go_wp2
    go_quiet (fail)
    go_wp2
    go_ret2
    exact ⟨_, rfl, hr10.drewN _⟩

set_option maxRecDepth 100000 in
set_option maxHeartbeats 1600000 in
theorem from_keep (base rb wb : Nat) (dV eV : Value) (size : Nat) (oV : Value) (offs : List Int) (at0 g bn bcap : Nat) (p n : Nat) (w : World) (_hl : size ≤ 1024)
    (hr : Ready base rb wb size at0 dV eV oV offs (.slice (some ⟨g, 0, none⟩) bn bcap) w w)
    (hab : at0 + bn = size) (hp : p + n = size) (hle : at0 ≤ p) (hc : bn ≤ bcap) :
    Calls Ybad.prog 8 #[.pointer (some ⟨wb, 0, none⟩), .int .i64 p] w fun e w' => ∃ ao cap, e = .returned (.tuple #[.slice ao n cap, .nilIface]) ∧ (0 < n → ao = some ⟨g, p - at0, none⟩) ∧
      Ready base rb wb size at0 dV eV oV offs (.slice (some ⟨g, 0, none⟩) bn bcap) w w' ∧ w'.heap = w.heap := by
  have c0 := c40 hr.win
  have c1 := c41 hr.win
  have c2 := c42 hr.win
  have c3 := c43 hr.win
  have c4 := c3f hr.win
  obtain ⟨k, rfl⟩ : ∃ k, p = at0 + k := ⟨p - at0, by omega⟩
  obtain ⟨q, rfl⟩ : ∃ q, bcap = k + q := ⟨bcap - k, by omega⟩
  have hk1 : bn = k + n := by omega
  subst hk1
  subst hp
  have hsub : ((at0 + k : Nat) : Int) - at0 = k := by omega
  have hsub1 : (at0 : Int) + k - at0 = k := by omega
  have hend : ¬ ((at0 : Int) + (k + n : Nat) < (at0 + k + n : Nat)) := by omega
  have hend1 : ¬ ((at0 : Int) + (k + n) < at0 + k + n) := by omega
  have h3 : k + n - k = n := by omega
  have h4 : k + q - k = q := by omega
  have h5 : at0 + k - at0 = k := by omega
  rcases Nat.eq_zero_or_pos q with hq | hq
  all_goals
    go_enter Ybad.func8, Ybad.ntmps8
    go_wp2
    go_quiet (fail)
    go_wp2
    go_quiet (fail)
    go_wp2
    go_ret2
  · exact ⟨_, _, rfl, fun hn => by omega, (hr.drewN _).drewN _, rfl⟩
  · exact ⟨_, _, rfl, fun _ => by rw [h5], (hr.drewN _).drewN _, rfl⟩
end Go.Proofs.YbulkaqzuDoor

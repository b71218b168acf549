/-
  THE CONTRACT OF '(*queue).unlink'.
-/
import Derived.Test.YbulkarawLink
namespace Go.Proofs.Ybulkaraw
open Go.RowKit

/-- The queue behind 'i' rounds of 'unlink'. -/
def stepN (X : Q) (k s : Nat) : Nat → Q
  | 0 => X
  | 1 => unlinkStep X k s 0
  | _ => unlinkStep (unlinkStep X k s 0) k s 1

theorem stepN_n (X : Q) (k s i : Nat) : (stepN X k s i).n = X.n ∧ (stepN X k s i).len = X.len := by
  have a := unlinkStep_keeps X k s 0
  have b := unlinkStep_keeps (unlinkStep X k s 0) k s 1
  match i with
  | 0 => exact ⟨rfl, rfl⟩
  | 1 => exact ⟨a.1, a.2.2.2⟩
  | _ + 2 => exact ⟨b.1.trans a.1, b.2.2.2.trans a.2.2.2⟩

/-- One round, in the heap: the end is turned. -/
theorem QAt.stepEnd {base qb g cap s k d d' : Nat} {X : Q} {fV : Value} {W : World} (h : QAt base qb X (.slice (some ⟨g, 0, none⟩) X.n cap) fV W) (hk : k < 2) (hd : d + d' = 1) (hn : X.nb s d k < 0) :
    QAt base qb (unlinkStep X k s d) (.slice (some ⟨g, 0, none⟩) X.n cap) fV (W.setCell ⟨qb, 2 + k * 3 + 1 + d, none⟩ (N64 (X.nb s d' k))) := by
  unfold unlinkStep
  rw [if_pos hn, show 1 - d = d' by omega]
  exact h.setEn hk (by omega) _

/-- One round, in the heap: a neighbour is turned. -/
theorem QAt.stepNb {base qb g cap s k d d' z : Nat} {X : Q} {fV : Value} {W : World} (h : QAt base qb X (.slice (some ⟨g, 0, none⟩) X.n cap) fV W) (hk : k < 2) (hd : d + d' = 1) (hn : X.nb s d k = z) (hz : z < X.n) :
    QAt base qb (unlinkStep X k s d) (.slice (some ⟨g, 0, none⟩) X.n cap) fV (W.setCell ⟨g, z * 10 + 6 + d' * 2 + k, none⟩ (N64 (X.nb s d' k))) := by
  unfold unlinkStep
  rw [if_neg (by rw [hn]; omega), show 1 - d = d' by omega, hn]
  exact h.setNb (s := z) hz (by omega) hk _

theorem opposite0 (w : World) : Calls Yba.prog 18 #[.int .i64 0] w fun e w' => e = .returned (.int .i64 1) ∧ w' = w := opposite_spec 0 1 rfl w
theorem opposite1 (w : World) : Calls Yba.prog 18 #[.int .i64 1] w fun e w' => e = .returned (.int .i64 0) ∧ w' = w := opposite_spec 1 0 rfl w

theorem index0 (w : World) : (Instr.index 85 (.agg #[.int .i64 0, .int .i64 1]) (.int .i64 0)).run Yba.prog w = .ok (.int .i64 0) w := by kernel_rfl
theorem index1 (w : World) : (Instr.index 85 (.agg #[.int .i64 0, .int .i64 1]) (.int .i64 1)).run Yba.prog w = .ok (.int .i64 1) w := by kernel_rfl

set_option maxRecDepth 100000 in
set_option maxHeartbeats 3200000 in
theorem unlink_spec (base qb g cap k s : Nat) (X : Q) (fV : Value) (W : World) (h : QAt base qb X (.slice (some ⟨g, 0, none⟩) X.n cap) fV W) (hs : s < X.n) (hk : k < 2) (hl : 0 < X.len k) (hlm : X.len k ≤ 1024)
    (h0 : X.nb s 0 k < 0 ∨ ∃ z, z < X.n ∧ X.nb s 0 k = z) (h1 : (unlinkStep X k s 0).nb s 1 k < 0 ∨ ∃ z, z < X.n ∧ (unlinkStep X k s 0).nb s 1 k = z) :
    Calls Yba.prog 16 #[.pointer (some ⟨qb, 0, none⟩), .int .i64 k, .int .i64 s] W fun e w' => e = .returned (.tuple #[]) ∧ QAt base qb (unlinkQ X k s) (.slice (some ⟨g, 0, none⟩) X.n cap) fV w' ∧ Below base W w' ∧ Kept W w' := by
  have c0 := h.c0
  have hgb := h.gbig
  have hop0 := opposite0
  have hop1 := opposite1
  have hi0 := index0
  have hi1 := index1
  go_enter Yba.func16, Yba.ntmps16
  go_wp2
  go_quiet (fail)
  go_wp2
  go_loopw [24] (fun u wr => ∃ i : Nat, u = .int .i64 i ∧ i ≤ 2 ∧ QAt base qb (stepN X k s i) (.slice (some ⟨g, 0, none⟩) X.n cap) fV wr ∧ Below base W wr ∧ Kept W wr) (fun u _ => match u with | .int _ x => (2 - x).toNat | _ => 0)
  case atStart => exact ⟨0, rfl, by omega, h.drewN _, below_drewN (Below.refl _ _) _, Kept.refl W⟩
  case round =>
    obtain ⟨i, rfl, hi, hq, hbl, hkt⟩ := hrel
    clear c0
    have c0 := hq.c0
    have fq := hq.frozenQ
    have hi' : i = 0 ∨ i = 1 ∨ i = 2 := by omega
    rcases hi' with rfl | rfl | rfl
    · have hq0 : QAt base qb X (.slice (some ⟨g, 0, none⟩) X.n cap) fV wr := hq
      have fs := hq0.frozenS
      have n0 := hq0.nb hs (d := 0) (by omega) hk
      have n1 := hq0.nb hs (d := 1) (by omega) hk
      have e0 := hq0.en hk (d := 0) (by omega)
      rcases h0 with hneg | ⟨z, hz, hzz⟩
      · go_wp2
        go_quiet ((go_at_call 18; exact Calls.quiet_of_same (hop0 _)))
        go_wp2
        exact ⟨⟨1, rfl, by omega, (hq0.drewN _).stepEnd (d := 0) (d' := 1) hk rfl hneg, (below_drewN hbl _).setCell (p := ⟨qb, _, none⟩) h.big _, hkt.trans ((hq0.drewN _).keptQ _ _)⟩, by decide⟩
      · have m1 := hq0.nb (s := z) hz (d := 1) (by omega) hk
        rw [hzz] at n0
        have hzz' : ¬ ((z : Int) < 0) := by omega
        go_wp2
        go_quiet ((go_at_call 18; exact Calls.quiet_of_same (hop0 _)))
        go_wp2
        go_region_with (go_at_call 18; refine (hop0 _).mono ?_; rintro e w' ⟨rfl, rfl⟩)
        all_goals
          go_wp2
          exact ⟨⟨1, rfl, by omega, (hq0.drewN (nq + 1)).stepNb (d := 0) (d' := 1) hk rfl hzz hz, (below_drewN hbl (nq + 1)).setCell (p := ⟨g, _, none⟩) hgb _, hkt.trans ((hq0.drewN (nq + 1)).keptS _ _)⟩, by decide⟩
    · obtain ⟨Y, hY⟩ : ∃ Y, Y = unlinkStep X k s 0 := ⟨_, rfl⟩
      have hYn : Y.n = X.n := by rw [hY]; exact (unlinkStep_keeps X k s 0).1
      have hq' : QAt base qb Y (.slice (some ⟨g, 0, none⟩) X.n cap) fV wr := by rw [hY]; exact hq
      have hq1 : QAt base qb Y (.slice (some ⟨g, 0, none⟩) Y.n cap) fV wr := by rw [hYn]; exact hq'
      rw [← hY] at h1
      have fs := hq1.frozenS
      have n0 := hq1.nb (hYn ▸ hs) (d := 0) (by omega) hk
      have n1 := hq1.nb (hYn ▸ hs) (d := 1) (by omega) hk
      have e1 := hq1.en hk (d := 1) (by omega)
      have E2 : Hid (stepN X k s 2 = unlinkStep Y k s 1) := by rw [hY]; rfl
      clear hq hY
      rcases h1 with hneg | ⟨z, hz, hzz⟩
      · go_wp2
        go_quiet ((go_at_call 18; exact Calls.quiet_of_same (hop1 _)))
        go_wp2
        have hst := (hq1.drewN nq).stepEnd (d := 1) (d' := 0) hk rfl hneg
        rw [hYn] at hst
        exact ⟨⟨2, rfl, by omega, by rw [E2.out]; exact hst, (below_drewN hbl _).setCell (p := ⟨qb, _, none⟩) h.big _, hkt.trans ((hq1.drewN _).keptQ _ _)⟩, by decide⟩
      · have m1 := hq1.nb (s := z) (hYn ▸ hz) (d := 0) (by omega) hk
        rw [hzz] at n1
        have hzz' : ¬ ((z : Int) < 0) := by omega
        go_wp2
        go_quiet ((go_at_call 18; exact Calls.quiet_of_same (hop1 _)))
        go_wp2
        go_region_with (go_at_call 18; refine (hop1 _).mono ?_; rintro e w' ⟨rfl, rfl⟩)
        all_goals
          go_wp2
          have hst := (hq1.drewN (nq + 1)).stepNb (d := 1) (d' := 0) hk rfl hzz (hYn ▸ hz)
          rw [hYn] at hst
          exact ⟨⟨2, rfl, by omega, by rw [E2.out]; exact hst, (below_drewN hbl (nq + 1)).setCell (p := ⟨g, _, none⟩) hgb _, hkt.trans ((hq1.drewN (nq + 1)).keptS _ _)⟩, by decide⟩
    · have hln := (stepN_n X k s 2).2
      have cl := hq.len hk
      obtain ⟨ln, hln'⟩ : ∃ ln, X.len k = ln + 1 := ⟨X.len k - 1, by omega⟩
      rw [hln, hln'] at cl
      have hsub : ((ln + 1 : Nat) : Int) - 1 = ln := by omega
      go_wp2
      go_end0
      have hst := hq.setLen hk ln
      refine ⟨rfl, ?_, hbl.setCell (p := ⟨qb, _, none⟩) h.big _, hkt.trans (hq.keptQ _ _)⟩
      have e : unlinkQ X k s = { stepN X k s 2 with len := updLen (stepN X k s 2).len k ln } := by
        unfold unlinkQ
        show { stepN X k s 2 with len := updLen (stepN X k s 2).len k ((stepN X k s 2).len k - 1) } = _
        rw [hln, hln', Nat.add_sub_cancel]
      rw [e]
      exact hst
end Go.Proofs.Ybulkaraw

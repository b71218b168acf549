/-
  THE CONTRACT OF '(*queue).link'.
-/
import Derived.Test.YbulkarawSlots
namespace Go.Proofs.Ybulkaraw
open Go.RowKit

theorem opposite_spec (d d' : Nat) (h : d + d' = 1) (w : World) : Calls Yba.prog 18 #[.int .i64 d] w fun e w' => e = .returned (.int .i64 d') ∧ w' = w := by
  have e : (1 : Int) - d = d' := by omega
  go_enter Yba.func18, Yba.ntmps18
  go_wp2
  go_ret
  exact ⟨rfl, rfl⟩

/-- Both neighbours of a slot are struck. -/
def struck (X : Q) (s k : Nat) : Q := { X with nb := upd (upd X.nb s 0 k (-1)) s 1 k (-1) }

theorem QAt.gbig {base qb g cap : Nat} {X : Q} {fV : Value} {W : World} (h : QAt base qb X (.slice (some ⟨g, 0, none⟩) X.n cap) fV W) : base ≤ g := by
  obtain ⟨xs, h1, _⟩ := h.slots
  exact (ownsRow_block h1).1

theorem QAt.struck {base qb g cap s k : Nat} {X : Q} {fV : Value} {W : World} (h : QAt base qb X (.slice (some ⟨g, 0, none⟩) X.n cap) fV W) (hs : s < X.n) (hk : k < 2) (q : Nat) :
    QAt base qb (Ybulkaraw.struck X s k) (.slice (some ⟨g, 0, none⟩) X.n cap) fV (((W.drewN q).setCell ⟨g, s * 10 + 6 + k, none⟩ (.int .i64 (-1))).setCell ⟨g, s * 10 + 6 + 2 + k, none⟩ (.int .i64 (-1))) ∧
    Below base W (((W.drewN q).setCell ⟨g, s * 10 + 6 + k, none⟩ (.int .i64 (-1))).setCell ⟨g, s * 10 + 6 + 2 + k, none⟩ (.int .i64 (-1))) ∧
    Kept W (((W.drewN q).setCell ⟨g, s * 10 + 6 + k, none⟩ (.int .i64 (-1))).setCell ⟨g, s * 10 + 6 + 2 + k, none⟩ (.int .i64 (-1))) := by
  have h1 := (h.drewN q).setNb hs (d := 0) (by omega) hk (-1)
  have h2 := h1.setNb hs (d := 1) (by omega) hk (-1)
  exact ⟨h2, ((below_drewN (Below.refl base W) q).setCell (p := ⟨g, _, none⟩) h.gbig _).setCell (p := ⟨g, _, none⟩) h.gbig _, ((h.drewN q).keptS _ _).trans (h1.keptS _ _)⟩

set_option maxRecDepth 100000 in
set_option maxHeartbeats 1600000 in
theorem link_first (base qb g cap k s d : Nat) (X : Q) (fV : Value) (W : World) (h : QAt base qb X (.slice (some ⟨g, 0, none⟩) X.n cap) fV W) (hs : s < X.n) (hk : k < 2) (_hd : d < 2) (_hn : X.n ≤ 1024) (h0 : X.len k = 0) :
    Calls Yba.prog 15 #[.pointer (some ⟨qb, 0, none⟩), .int .i64 k, .int .i64 s, .int .i64 d] W fun e w' => e = .returned (.tuple #[]) ∧ QAt base qb (linkQ X k s d) (.slice (some ⟨g, 0, none⟩) X.n cap) fV w' ∧ Below base W w' ∧ Kept W w' := by
  have c0 := h.c0
  have fq := h.frozenQ
  have fs := h.frozenS
  have n0 := h.nb hs (d := 0) (by omega) hk
  have n1 := h.nb hs (d := 1) (by omega) hk
  go_enter Yba.func15, Yba.ntmps15
  go_wp2
  go_quiet (fail)
  go_wp2
  go_region
  obtain ⟨q1, b1, t1⟩ := h.struck hs hk (nq + 1)
  generalize ((W.drewN (nq + 1)).setCell ⟨g, s * 10 + 6 + k, none⟩ (.int .i64 (-1))).setCell ⟨g, s * 10 + 6 + 2 + k, none⟩ (.int .i64 (-1)) = W1 at q1 b1 t1 ⊢
  clear c0 fq fs n0 n1
  have cl := q1.len hk
  have ce0 := q1.en hk (d := 0) (by omega)
  have ce1 := q1.en hk (d := 1) (by omega)
  have fq := q1.frozenQ
  have h0' : (struck X s k).len k = 0 := h0
  rw [h0'] at cl
  go_wp2
  go_end0
  have q2 := (((q1.setEn hk (d := 0) (by omega) s).setEn hk (d := 1) (by omega) s).setLen hk 1)
  refine ⟨rfl, ?_, ?_, ((t1.trans (q1.keptQ _ _)).trans ((q1.setEn hk (d := 0) (by omega) s).keptQ _ _)).trans (((q1.setEn hk (d := 0) (by omega) s).setEn hk (d := 1) (by omega) s).keptQ _ _)⟩
  · have e : linkQ X k s d = { struck X s k with en := updEn (updEn X.en k 0 s) k 1 s, len := updLen X.len k 1 } := by
      unfold linkQ
      rw [if_pos h0, h0]
      rfl
    rw [e]
    exact q2
  · exact ((b1.setCell (p := ⟨qb, _, none⟩) h.big _).setCell (p := ⟨qb, _, none⟩) h.big _).setCell (p := ⟨qb, _, none⟩) h.big _

set_option maxRecDepth 100000 in
set_option maxHeartbeats 1600000 in
theorem link_more (base qb g cap k s d d' z : Nat) (X : Q) (fV : Value) (W : World) (h : QAt base qb X (.slice (some ⟨g, 0, none⟩) X.n cap) fV W) (hs : s < X.n) (hk : k < 2) (hd : d + d' = 1) (_hn : X.n ≤ 1024) (h0 : X.len k ≠ 0) (hl : X.len k ≤ 1024) (hz : X.en k d = z) (hzn : z < X.n) :
    Calls Yba.prog 15 #[.pointer (some ⟨qb, 0, none⟩), .int .i64 k, .int .i64 s, .int .i64 d] W fun e w' => e = .returned (.tuple #[]) ∧ QAt base qb (linkQ X k s d) (.slice (some ⟨g, 0, none⟩) X.n cap) fV w' ∧ Below base W w' ∧ Kept W w' := by
  have c0 := h.c0
  have fq := h.frozenQ
  have fs := h.frozenS
  have n0 := h.nb hs (d := 0) (by omega) hk
  have n1 := h.nb hs (d := 1) (by omega) hk
  have hd2 : d < 2 := by omega
  have hd2' : d' < 2 := by omega
  go_enter Yba.func15, Yba.ntmps15
  go_wp2
  go_quiet (fail)
  go_wp2
  go_region
  obtain ⟨q1, b1, t1⟩ := h.struck hs hk (nq + 1)
  generalize ((W.drewN (nq + 1)).setCell ⟨g, s * 10 + 6 + k, none⟩ (.int .i64 (-1))).setCell ⟨g, s * 10 + 6 + 2 + k, none⟩ (.int .i64 (-1)) = W1 at q1 b1 t1 ⊢
  clear c0 fq fs n0 n1
  have c0 := q1.c0
  have cl := q1.len hk
  have ce := q1.en hk (d := d) hd2
  have fq := q1.frozenQ
  have fs := q1.frozenS
  have nd := q1.nb hs (d := d') hd2' hk
  have hz' : (struck X s k).en k d = z := hz
  rw [hz'] at ce
  obtain ⟨ln, hln⟩ : ∃ ln, ln = X.len k := ⟨_, rfl⟩
  have hl' : (struck X s k).len k = ln := hln.symm
  rw [hl'] at cl
  have hlb : ((ln : Int) == 0) = false := by simp; omega
  go_wp2
  have hop := fun w => opposite_spec d d' hd w
  go_region_with (go_at_call 18; refine (hop _).mono ?_; rintro e w' ⟨rfl, rfl⟩)
  all_goals
    have q2 := (q1.setNb hs hd2' hk z).drewN 1
    have b2 : Below base W (W1.setCell ⟨g, s * 10 + 6 + d' * 2 + k, none⟩ (.int .i64 z)).drew := below_drewN (b1.setCell (p := ⟨g, _, none⟩) h.gbig _) 1
    have t2 : Kept W (W1.setCell ⟨g, s * 10 + 6 + d' * 2 + k, none⟩ (.int .i64 z)).drew := t1.trans (q1.keptS _ _)
    change QAt base qb _ _ fV (W1.setCell ⟨g, s * 10 + 6 + d' * 2 + k, none⟩ (.int .i64 z)).drew at q2
    generalize (W1.setCell ⟨g, s * 10 + 6 + d' * 2 + k, none⟩ (.int .i64 z)).drew = W2 at q2 b2 t2 ⊢
    clear c0 cl ce fq fs nd
    have c0 : W2.cell? ⟨qb, 0, none⟩ = some (.slice (some ⟨g, 0, none⟩) X.n cap) := q2.c0
    have cl := q2.len hk
    have ce := q2.en hk (d := d) hd2
    have fq := q2.frozenQ
    have fs := q2.frozenS
    have nd := q2.nb (s := z) hzn (d := d) hd2 hk
    simp only [hz', hl'] at ce cl
    go_wp2
    go_region
    have q3 := (q2.setNb (s := z) hzn hd2 hk s).drewN 1
    have b3 : Below base W (W2.setCell ⟨g, z * 10 + 6 + d * 2 + k, none⟩ (.int .i64 s)).drew := below_drewN (b2.setCell (p := ⟨g, _, none⟩) h.gbig _) 1
    have t3 : Kept W (W2.setCell ⟨g, z * 10 + 6 + d * 2 + k, none⟩ (.int .i64 s)).drew := t2.trans (q2.keptS _ _)
    change QAt base qb _ _ fV (W2.setCell ⟨g, z * 10 + 6 + d * 2 + k, none⟩ (.int .i64 s)).drew at q3
    generalize (W2.setCell ⟨g, z * 10 + 6 + d * 2 + k, none⟩ (.int .i64 s)).drew = W3 at q3 b3 t3 ⊢
    clear c0 cl ce fq fs nd
    have cl := q3.len hk
    have ce := q3.en hk (d := d) hd2
    have fq := q3.frozenQ
    simp only [hz', hl'] at ce cl
    go_wp2
    go_end0
    have q4 := (q3.setEn hk hd2 s).setLen hk (X.len k + 1)
    refine ⟨rfl, ?_, (b3.setCell (p := ⟨qb, _, none⟩) h.big _).setCell (p := ⟨qb, _, none⟩) h.big _, (t3.trans (q3.keptQ _ _)).trans ((q3.setEn hk hd2 s).keptQ _ _)⟩
    have e : linkQ X k s d = { X with nb := upd (upd (struck X s k).nb s d' k z) z d k s, en := updEn X.en k d s, len := updLen X.len k (X.len k + 1) } := by
      unfold linkQ
      rw [if_neg h0, hz, show 1 - d = d' by omega]
      rfl
    rw [e]
    exact q4
end Go.Proofs.Ybulkaraw

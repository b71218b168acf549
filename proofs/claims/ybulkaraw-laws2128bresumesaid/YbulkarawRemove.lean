/-
  THE CONTRACT OF '(*queue).remove'.
-/
import Derived.Test.YbulkarawUnlink
namespace Go.Proofs.Ybulkaraw
open Go.RowKit

theorem Yba.info3 : (Yba.prog.info? 3).map (fun i => (i.zero, i.size, i.bytes)) = some (some (.int .i64 0), 1, 8) := by kernel_rfl

theorem la_bound {L : List Nat} {n : Nat} (h : ∀ s ∈ L, s < n) : la L (-1) < 0 ∨ ∃ z, z < n ∧ la L (-1) = z := by
  by_cases e : L = []
  · subst e; exact .inl (by simp)
  · obtain ⟨s, hs, hl⟩ := la_mem e (-1)
    exact .inr ⟨s, h s hs, hl⟩

theorem hd_bound {L : List Nat} {n : Nat} (h : ∀ s ∈ L, s < n) : hd L (-1) < 0 ∨ ∃ z, z < n ∧ hd L (-1) = z := by
  by_cases e : L = []
  · subst e; exact .inl (by simp)
  · obtain ⟨s, hs, hl⟩ := hd_mem e (-1)
    exact .inr ⟨s, h s hs, hl⟩

/-- What 'unlink' wants. -/
theorem Thread.ready {X : Q} {k s : Nat} {A B : List Nat} (h : Thread X k (A ++ s :: B)) (hlt : ∀ x ∈ A ++ s :: B, x < X.n) :
    (X.nb s 0 k < 0 ∨ ∃ z, z < X.n ∧ X.nb s 0 k = z) ∧ ((unlinkStep X k s 0).nb s 1 k < 0 ∨ ∃ z, z < X.n ∧ (unlinkStep X k s 0).nb s 1 k = z) ∧ 0 < X.len k ∧ X.len k = A.length + B.length + 1 := by
  obtain ⟨h0, h1⟩ := dl_at h.links
  have hnd := h.nodup
  obtain ⟨nA, nsB, ndis⟩ := List.nodup_append.1 hnd
  have e : (unlinkStep X k s 0).nb s 1 k = X.nb s 1 k := by
    unfold unlinkStep
    split
    · rfl
    · rename_i hz
      rw [h0] at hz ⊢
      have hA : A ≠ [] := by intro e; subst e; exact hz (by simp)
      obtain ⟨z, hzA, hzl⟩ := la_mem hA (-1)
      have hne : s ≠ z := fun e => ndis z hzA s (by simp) e.symm
      rw [hzl]
      simp [upd, hne]
  refine ⟨?_, ?_, by rw [h.len]; simp; omega, by rw [h.len]; simp; omega⟩
  · rw [h0]
    exact la_bound (fun x hx => hlt x (by simp [hx]))
  · rw [e, h1]
    exact hd_bound (fun x hx => hlt x (by simp [hx]))

/-- The free slots' row has grown; the queue's cell is set. -/
theorem QAt.setFree {base qb s : Nat} {X : Q} {sV fV v4 : Value} {W w4 : World} {o : Obj} (h : QAt base qb X sV fV W) (hg : (W.alloc o).grownBy w4 fV.ownBlock) (hown : w4.ownsRow base 3 1 v4 (X.free.length + 1) ((X.free.map fun s : Nat => N64 s) ++ [.int .i64 s])) :
    QAt base qb { X with free := X.free ++ [s] } sV v4 (w4.setCell ⟨qb, 1, none⟩ v4) := by
  obtain ⟨xs, h1, h2⟩ := h.slots
  have hb4 := kept_at hg (kept_at (World.grownBy_alloc W o none) h.blk (by simp)) (row_ne h.free h.blk (by decide))
  have h14 := (h1.alloc o).kept hg (rows_ne h.free h1 (by decide))
  refine ⟨h.big, ?_, ⟨xs, h14.kept (grown_setCell w4 _ _) (.inr (fun e => row_ne h14 hb4 (by decide) e.symm)), h2⟩, ?_⟩
  · rw [setCell_block hb4]
    simp [qcells]
  · have := hown.kept (grown_setCell w4 ⟨qb, 1, none⟩ v4) (.inr (fun e => row_ne hown hb4 (by decide) e.symm))
    simpa using this

/-- What the growth of the free slots' row leaves alone. -/
theorem QAt.keptF {base qb : Nat} {X : Q} {sV fV : Value} {W w4 : World} {o : Obj} (h : QAt base qb X sV fV W) (hg : (W.alloc o).grownBy w4 fV.ownBlock) : Kept W w4 := by
  intro j cur t fr hj _ _ h3
  exact kept_at hg (kept_at (World.grownBy_alloc W o none) hj (by simp)) (row_ne h.free hj h3)

set_option maxRecDepth 100000 in
set_option maxHeartbeats 1600000 in
theorem remove_spec (base qb g cap c : Nat) (X : Q) (A B : List Req) (r : Req) (fV : Value) (W : World) (h : QAt base qb X (.slice (some ⟨g, 0, none⟩) X.n cap) fV W) (hI : Inv X (A ++ r :: B) c) (hc : c ≤ 1024) (hbs : base ≤ W.heap.size) :
    Calls Yba.prog 12 #[.pointer (some ⟨qb, 0, none⟩), .int .i64 r.slot] W fun e w' => e = .returned (.tuple #[]) ∧ (∃ fV', QAt base qb (removeQ X r.slot) (.slice (some ⟨g, 0, none⟩) X.n cap) fV' w') ∧ Below base W w' ∧ Kept W w' := by
  obtain ⟨i0, hi, hz0, hz1, hz2⟩ := info_parts Yba.info3
  have hr := hI.at' r (by simp)
  have hlt : ∀ x ∈ slotsOf (A ++ r :: B), x < X.n := fun x hx => by
    obtain ⟨q, hq, e⟩ := mem_slots.1 hx
    exact e ▸ (hI.at' q hq).1
  have hsz := hI.sizes
  simp at hsz
  have t0 := hI.every
  simp only [slotsOf, List.map_append, List.map_cons] at t0
  obtain ⟨a1, a2, a3, a4⟩ := t0.ready (fun x hx => hlt x (by simpa [slotsOf] using hx))
  simp at a4
  obtain ⟨k1, k2, k3⟩ := unlinkQ_keeps X 0 r.slot
  have hun0 := unlink_spec base qb g cap 0 r.slot X fV W h hr.1 (by omega) a3 (by omega) a1 a2
  obtain ⟨Y, hY⟩ : ∃ Y, Y = unlinkQ X 0 r.slot := ⟨_, rfl⟩
  rw [← hY] at hun0 k1 k2 k3
  have hfree : Y.free.length ≤ 1024 := by rw [k3]; omega
  by_cases hw : r.want = 2
  · have ex : slotsOf (exclusive (A ++ r :: B)) = slotsOf (exclusive A) ++ r.slot :: slotsOf (exclusive B) := by simp [exclusive, slotsOf, hw]
    have t1 := hI.excl
    rw [ex] at t1
    have t1' : Thread Y 1 (slotsOf (exclusive A) ++ r.slot :: slotsOf (exclusive B)) := by rw [hY]; exact t1.unlinkOther (by decide)
    obtain ⟨b1, b2, b3, b4⟩ := t1'.ready (fun x hx => by rw [k1]; rw [← ex] at hx; exact hlt x (excl_sub hx))
    have hl1 : Y.len 1 ≤ 1024 := by
      have h1 : (slotsOf (exclusive A)).length ≤ A.length := by simp [slotsOf, exclusive]; exact List.length_filter_le _ _
      have h2 : (slotsOf (exclusive B)).length ≤ B.length := by simp [slotsOf, exclusive]; exact List.length_filter_le _ _
      omega
    obtain ⟨l1, l2, l3⟩ := unlinkQ_keeps Y 1 r.slot
    have hE : removeQ X r.slot = { unlinkQ Y 1 r.slot with free := (unlinkQ Y 1 r.slot).free ++ [r.slot] } := by
      unfold removeQ
      simp only [← hY]
      rw [if_pos (by rw [k2, hr.2]; exact hw)]
    have HE : Hid (removeQ X r.slot = { unlinkQ Y 1 r.slot with free := (unlinkQ Y 1 r.slot).free ++ [r.slot] }) := hE
    clear hE hY
    obtain ⟨Z, hZ⟩ : ∃ Z, Z = unlinkQ Y 1 r.slot := ⟨_, rfl⟩
    have hun1 := fun (W1 : World) (hq1 : QAt base qb Y (.slice (some ⟨g, 0, none⟩) Y.n cap) fV W1) => unlink_spec base qb g cap 1 r.slot Y fV W1 hq1 (by rw [k1]; exact hr.1) (by omega) b3 hl1 b1 b2
    rw [← hZ] at hun1 HE l1 l2 l3
    have hZf : Z.free.length ≤ 1024 := by rw [l3]; exact hfree
    clear hZ
    go_enter Yba.func12, Yba.ntmps12
    go_wp2_with (first
      | (go_at_call 16; have _t := hun0; refine hun0.mono ?_; rintro e w1 ⟨rfl, hq1, hb1, ht1⟩; clear hun0 _t; have hs2 := hq1.c0; have hq1' : QAt base qb Y (.slice (some ⟨g, 0, none⟩) Y.n cap) fV w1 := (by rw [k1]; exact hq1); have hwc := hq1'.rqc (s := r.slot) (c := 2) (by rw [k1]; exact hr.1) (by omega); simp only [scell, k2, hr.2, hw] at hwc)
      | (go_at_call 16; refine (hun1 _ hq1').mono ?_; rintro e w2 ⟨rfl, hq2, hb2, ht2⟩; rw [k1] at hq2; have hf2 := hq2.c1; have hfr2 := hq2.frozenQ; have hs2 : base ≤ w2.heap.size := Nat.le_trans hbs (Nat.le_trans hb1.size hb2.size))
      | (at_builtin; refine wpList_append_own_at _ rfl _ _ 22 rfl base 3 i0 (.int .i64 0) 1 8 Yba.underlying22 hi hz0 hz1 hz2 rfl (by decide) fV _ _ rfl (hq2.free.alloc _) ⟨w2.heap.size, 0, none⟩ 1 1 [.int .i64 r.slot] rfl rfl (cell_one_new _ _ _) (by simp [Value.oneCell']) (by unfold maxLen; omega) (by omega) (by simp; omega) ?_; intro v4 w4 hown4 hg4 hnil4 hloc4; clear hnil4 hloc4; obtain ⟨g4, cap4, hv4⟩ := ownsRow_value hown4 (by omega); rw [hv4] at hown4 ⊢; clear hv4; have hbk := kept_at hg4 (kept_at (World.grownBy_alloc w2 _ none) hq2.blk (by simp)) (row_ne hq2.free hq2.blk (by decide)); have d1 : w4.cell? ⟨qb, 1, none⟩ = some fV := (by simp [World.cell?, hbk, qcells]); have d2 : w4.frozen? ⟨qb, 1, none⟩ = false := (by simp [World.frozen?, hbk])))
    go_end0
    refine ⟨rfl, ⟨.slice (some ⟨g4, 0, none⟩) (X.free.length + 1) cap4, by rw [HE.out, ← k3, ← l3]; exact hq2.setFree hg4 hown4⟩, ?_, ((ht1.trans ht2).trans (hq2.keptF hg4)).trans (kept_set hbk (.inl rfl) _)⟩
    have hb4 : Below base w2 w4 := ((Below.refl base w2).alloc hs2 _).grown hg4 (by simp; omega) (fun j e => (hq2.free.lt j e).1)
    exact ((hb1.trans hb2).trans hb4).setCell (p := ⟨qb, 1, none⟩) h.big _
  · have hE : removeQ X r.slot = { Y with free := Y.free ++ [r.slot] } := by
      unfold removeQ
      simp only [← hY]
      rw [if_neg (by rw [k2, hr.2]; exact hw)]
    have HE : Hid (removeQ X r.slot = { Y with free := Y.free ++ [r.slot] }) := hE
    clear hE hY
    have hwb : (r.want == 2) = false := by simpa using hw
    go_enter Yba.func12, Yba.ntmps12
    go_wp2_with (first
      | (go_at_call 16; refine hun0.mono ?_; rintro e w1 ⟨rfl, hq1, hb1, ht1⟩; clear hun0; have hs1 := hq1.c0; have hq1' : QAt base qb Y (.slice (some ⟨g, 0, none⟩) Y.n cap) fV w1 := (by rw [k1]; exact hq1); have hwc := hq1'.rqc (s := r.slot) (c := 2) (by rw [k1]; exact hr.1) (by omega); simp only [scell, k2, hr.2] at hwc; have hf2 := hq1.c1; have hfr2 := hq1.frozenQ; have hs2 : base ≤ w1.heap.size := Nat.le_trans hbs hb1.size)
      | (at_builtin; refine wpList_append_own_at _ rfl _ _ 22 rfl base 3 i0 (.int .i64 0) 1 8 Yba.underlying22 hi hz0 hz1 hz2 rfl (by decide) fV _ _ rfl (hq1.free.alloc _) ⟨w1.heap.size, 0, none⟩ 1 1 [.int .i64 r.slot] rfl rfl (cell_one_new _ _ _) (by simp [Value.oneCell']) (by unfold maxLen; omega) (by omega) (by simp; omega) ?_; intro v4 w4 hown4 hg4 hnil4 hloc4; clear hnil4 hloc4; obtain ⟨g4, cap4, hv4⟩ := ownsRow_value hown4 (by omega); rw [hv4] at hown4 ⊢; clear hv4; have hbk := kept_at hg4 (kept_at (World.grownBy_alloc w1 _ none) hq1.blk (by simp)) (row_ne hq1.free hq1.blk (by decide)); have d1 : w4.cell? ⟨qb, 1, none⟩ = some fV := (by simp [World.cell?, hbk, qcells]); have d2 : w4.frozen? ⟨qb, 1, none⟩ = false := (by simp [World.frozen?, hbk])))
    go_end0
    refine ⟨rfl, ⟨.slice (some ⟨g4, 0, none⟩) (X.free.length + 1) cap4, by rw [HE.out, ← k3]; exact hq1.setFree hg4 hown4⟩, ?_, (ht1.trans (hq1.keptF hg4)).trans (kept_set hbk (.inl rfl) _)⟩
    have hb4 : Below base w1 w4 := ((Below.refl base w1).alloc hs2 _).grown hg4 (by simp; omega) (fun j e => (hq1.free.lt j e).1)
    exact (hb1.trans hb4).setCell (p := ⟨qb, 1, none⟩) h.big _
end Go.Proofs.Ybulkaraw

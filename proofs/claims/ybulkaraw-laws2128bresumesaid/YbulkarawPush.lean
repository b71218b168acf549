/-
  THE CONTRACT OF '(*queue).push'.
-/
import Derived.Test.YbulkarawRemove
import Derived.Laws.Rows
import Derived.Laws.NewBlocks
namespace Go.Proofs.Ybulkaraw
open Go.RowKit

/-- The cells of a request. -/
abbrev reqO (r : Req) : Obj := .cells #[N64 r.txn, N64 r.op, N64 r.want, N64 r.seq, N64 r.key, N64 r.slot] 60
abbrev reqV (r : Req) : Value := .agg #[N64 r.txn, N64 r.op, N64 r.want, N64 r.seq, N64 r.key, N64 r.slot]

/-- Rows of ten cells, their content by slot and cell. -/
def RowAt (base : Nat) (v : Value) (n : Nat) (f : Nat → Nat → Value) (W : World) : Prop := ∃ xs, W.ownsRow base 79 10 v n xs ∧ ∀ s, s < n → ∀ c, c < 10 → xs[s * 10 + c]? = some (f s c)

theorem RowAt.set {base g n cap s c : Nat} {f : Nat → Nat → Value} {W : World} (h : RowAt base (.slice (some ⟨g, 0, none⟩) n cap) n f W) (hs : s < n) (hc : c < 10) (v : Value) :
    RowAt base (.slice (some ⟨g, 0, none⟩) n cap) n (fun s' c' => if s' = s ∧ c' = c then v else f s' c') (W.setCell ⟨g, s * 10 + c, none⟩ v) := by
  obtain ⟨xs, h1, h2⟩ := h
  have hlen : xs.length = n * 10 := h1.1
  refine ⟨_, ownsRow_set h1 v, fun s' hs' c' hc' => ?_⟩
  rw [List.getElem?_set]
  split
  · rename_i e
    have e1 : s' = s := by omega
    have e2 : c' = c := by omega
    rw [if_pos (by omega)]
    simp [e1, e2]
  · rename_i e
    have hn : ¬ (s' = s ∧ c' = c) := by intro hh; apply e; rw [hh.1, hh.2]
    rw [h2 s' hs' c' hc']
    simp only [hn, if_false]

/-- 'q.slots[s].r = r', cell by cell. -/
def wrote (W : World) (g s : Nat) (r : Req) : World :=
  (((((W.setCell ⟨g, s * 10, none⟩ (N64 r.txn)).setCell ⟨g, s * 10 + 1, none⟩ (N64 r.op)).setCell ⟨g, s * 10 + 2, none⟩ (N64 r.want)).setCell ⟨g, s * 10 + 3, none⟩ (N64 r.seq)).setCell ⟨g, s * 10 + 4, none⟩ (N64 r.key)).setCell ⟨g, s * 10 + 5, none⟩ (N64 r.slot)

theorem QAt.wrote {base qb g cap s : Nat} {X : Q} {fV : Value} {W : World} (h : QAt base qb X (.slice (some ⟨g, 0, none⟩) X.n cap) fV W) (hs : s < X.n) (r : Req) : QAt base qb (held X s r) (.slice (some ⟨g, 0, none⟩) X.n cap) fV (wrote W g s r) ∧ Below base W (wrote W g s r) ∧ ∀ b, b ≠ g → (wrote W g s r).heap[b]? = W.heap[b]? := by
  have hr : RowAt base (.slice (some ⟨g, 0, none⟩) X.n cap) X.n (scell X) W := h.slots
  have h6 := (((((hr.set hs (c := 0) (by omega) (N64 r.txn)).set hs (c := 1) (by omega) (N64 r.op)).set hs (c := 2) (by omega) (N64 r.want)).set hs (c := 3) (by omega) (N64 r.seq)).set hs (c := 4) (by omega) (N64 r.key)).set hs (c := 5) (by omega) (N64 r.slot)
  have hk : ∀ b, b ≠ g → (Ybulkaraw.wrote W g s r).heap[b]? = W.heap[b]? := by
    intro b hb
    unfold Ybulkaraw.wrote
    rw [Below.heap_setCell _ _ _ _ hb, Below.heap_setCell _ _ _ _ hb, Below.heap_setCell _ _ _ _ hb, Below.heap_setCell _ _ _ _ hb, Below.heap_setCell _ _ _ _ hb, Below.heap_setCell _ _ _ _ hb]
  have hg := h.gbig
  have hB : Below base W (Ybulkaraw.wrote W g s r) := ((((((Below.refl base W).setCell (p := ⟨g, _, none⟩) hg _).setCell (p := ⟨g, _, none⟩) hg _).setCell (p := ⟨g, _, none⟩) hg _).setCell (p := ⟨g, _, none⟩) hg _).setCell (p := ⟨g, _, none⟩) hg _).setCell (p := ⟨g, _, none⟩) hg _
  refine ⟨⟨h.big, (hk qb h.ne.symm).trans h.blk, ?_, ?_⟩, hB, hk⟩
  · obtain ⟨xs, x1, x2⟩ := h6
    refine ⟨xs, x1, fun s' hs' c hc => ?_⟩
    rw [x2 s' hs' c hc]
    congr 1
    by_cases e : s' = s
    · subst e
      match c with
      | 0 | 1 | 2 | 3 | 4 | 5 => simp [scell, held]
      | c + 6 => simp [scell, held]
    · simp only [e, false_and, if_false]
      unfold scell held
      simp [e]
  · have hgr : W.grownBy (Ybulkaraw.wrote W g s r) (some g) := ⟨hB.os, hB.tape, hB.output, hB.size, fun b _ hb => hk b (fun e => hb (by rw [e]))⟩
    obtain ⟨xs, h1, _⟩ := h.slots
    exact h.free.kept hgr (rows_ne h1 h.free (by decide))

theorem QAt.wroteKept {base qb g cap s : Nat} {X : Q} {fV : Value} {W : World} (h : QAt base qb X (.slice (some ⟨g, 0, none⟩) X.n cap) fV W) (hs : s < X.n) (r : Req) : Kept W (Ybulkaraw.wrote W g s r) := by
  intro j cur t fr hj h1 h2 h3
  obtain ⟨xs, x1, _⟩ := h.slots
  obtain ⟨_, _, c, hc⟩ := ownsRow_block x1
  rw [(h.wrote hs r).2.2 j ?_]
  · exact hj
  · intro e
    subst e
    rw [hj] at hc
    simp at hc
    exact h2 hc.2.1

/-- 'link', whatever the list. -/
theorem link_spec (base qb g cap k s d : Nat) (X : Q) (L : List Nat) (fV : Value) (W : World) (h : QAt base qb X (.slice (some ⟨g, 0, none⟩) X.n cap) fV W) (t : Thread X k L) (hlt : ∀ x ∈ L, x < X.n) (hL : L.length ≤ 1024) (hs : s < X.n) (hk : k < 2) (hd : d < 2) (hn : X.n ≤ 1024) :
    Calls Yba.prog 15 #[.pointer (some ⟨qb, 0, none⟩), .int .i64 k, .int .i64 s, .int .i64 d] W fun e w' => e = .returned (.tuple #[]) ∧ QAt base qb (linkQ X k s d) (.slice (some ⟨g, 0, none⟩) X.n cap) fV w' ∧ Below base W w' ∧ Kept W w' := by
  by_cases h0 : X.len k = 0
  · exact link_first base qb g cap k s d X fV W h hs hk hd hn h0
  · have hne : L ≠ [] := by intro e; subst e; exact h0 (by rw [t.len]; rfl)
    obtain ⟨e0, e1⟩ := t.ends hne
    have hlen := t.len
    have hz : ∃ z, z < X.n ∧ X.en k d = z := by
      have : d = 0 ∨ d = 1 := by omega
      rcases this with rfl | rfl
      · obtain ⟨z, hz, e⟩ := hd_mem hne (-1)
        exact ⟨z, hlt z hz, e0.trans e⟩
      · obtain ⟨z, hz, e⟩ := la_mem hne (-1)
        exact ⟨z, hlt z hz, e1.trans e⟩
    obtain ⟨z, hz1, hz2⟩ := hz
    exact link_more base qb g cap k s d (1 - d) z X fV W h hs hk (by omega) hn h0 (by omega) hz2 hz1

theorem QAt.alloc {base qb : Nat} {X : Q} {sV fV : Value} {W : World} (h : QAt base qb X sV fV W) (o : Obj) : QAt base qb X sV fV (W.alloc o) := by
  obtain ⟨xs, h1, h2⟩ := h.slots
  exact ⟨h.big, kept_at (World.grownBy_alloc W o none) h.blk (by simp), ⟨xs, h1.alloc o, h2⟩, h.free.alloc o⟩

/-- A shorter part of a row of one's own. -/
theorem ownsRow_less {w : World} {base e n g cap : Nat} {xs : List Value} {v : Value} (h : w.ownsRow base e 1 (.slice (some ⟨g, 0, none⟩) (n + 1) cap) (n + 1) (xs ++ [v])) : w.ownsRow base e 1 (.slice (some ⟨g, 0, none⟩) n cap) n xs := by
  obtain ⟨h1, h2⟩ := h
  rcases h2 with ⟨h2, _⟩ | ⟨g', cap', cur, h2, h3, h4, h5, h6, h7, h8⟩
  · cases h2
  · injection h2 with e1 e2 e3
    injection e1 with e1
    injection e1 with e1
    subst e1 e3
    simp at h1
    refine ⟨by simpa using h1, .inr ⟨g, cap, cur, rfl, h3, h4, by omega, h6, h7, ?_⟩⟩
    have := congrArg (List.take n) h8
    rw [List.take_take, Nat.min_eq_left (by omega), List.take_left' (by omega)] at this
    rw [Nat.mul_one]
    exact this

theorem QAt.popFree {base qb fg fcap z : Nat} {X : Q} {A : List Nat} {sV : Value} {W : World} (h : QAt base qb X sV (.slice (some ⟨fg, 0, none⟩) (A.length + 1) fcap) W) (hf : X.free = A ++ [z]) :
    QAt base qb { X with free := A } sV (.slice (some ⟨fg, 0, none⟩) A.length fcap) (W.setCell ⟨qb, 1, none⟩ (.slice (some ⟨fg, 0, none⟩) A.length fcap)) := by
  obtain ⟨xs, h1, h2⟩ := h.slots
  have hfr := h.free
  rw [hf] at hfr
  simp only [List.length_append, List.length_cons, List.length_nil, Nat.zero_add, List.map_append, List.map_cons, List.map_nil] at hfr
  have hless := ownsRow_less hfr
  refine ⟨h.big, ?_, ⟨xs, h1.kept (grown_setCell W _ _) (.inr (fun e => row_ne h1 h.blk (by decide) e.symm)), h2⟩, hless.kept (grown_setCell W _ _) (.inr (fun e => row_ne hless h.blk (by decide) e.symm))⟩
  rw [setCell_block h.blk]
  simp [qcells]

theorem two_new (W : World) (o1 o2 : Obj) : ((W.alloc o1).alloc o2).heap[W.heap.size]? = some o1 ∧ ((W.alloc o1).alloc o2).heap[W.heap.size + 1]? = some o2 := by
  refine ⟨?_, ?_⟩
  all_goals show ((W.heap.push o1).push o2)[_]? = _
  · rw [Array.getElem?_push, if_neg (by simp), Array.getElem?_push, if_pos rfl]
  · rw [Array.getElem?_push, if_pos (by simp)]

theorem req_cells {W : World} {b : Nat} {r : Req} (h : W.heap[b]? = some (reqO r)) : W.cell? ⟨b, 0, none⟩ = some (N64 r.txn) ∧ W.cell? ⟨b, 1, none⟩ = some (N64 r.op) ∧ W.cell? ⟨b, 2, none⟩ = some (N64 r.want) ∧ W.cell? ⟨b, 3, none⟩ = some (N64 r.seq) ∧ W.cell? ⟨b, 4, none⟩ = some (N64 r.key) ∧ W.cell? ⟨b, 5, none⟩ = some (N64 r.slot) ∧ ∀ o, W.frozen? ⟨b, o, none⟩ = false := by
  simp [World.cell?, World.frozen?, h]

theorem keptAlloc (W : World) (o : Obj) : Kept W (W.alloc o) := fun _ _ _ _ hj _ _ _ => kept_at (World.grownBy_alloc W o none) hj (by simp)

/-- 'return r', cell by cell into the result's block. -/
def resWorld (W : World) (b : Nat) (r : Req) : World :=
  (((((W.setCell ⟨b, 0, none⟩ (N64 r.txn)).setCell ⟨b, 1, none⟩ (N64 r.op)).setCell ⟨b, 2, none⟩ (N64 r.want)).setCell ⟨b, 3, none⟩ (N64 r.seq)).setCell ⟨b, 4, none⟩ (N64 r.key)).setCell ⟨b, 5, none⟩ (N64 r.slot)

theorem res_block {W : World} {b : Nat} {r0 r : Req} (h : W.heap[b]? = some (reqO r0)) : (resWorld W b r).heap[b]? = some (reqO r) := by
  unfold resWorld
  rw [setCell_block (setCell_block (setCell_block (setCell_block (setCell_block (setCell_block h _) _) _) _) _) _]
  simp

theorem res_other (W : World) (b : Nat) (r : Req) (j : Nat) (hj : j ≠ b) : (resWorld W b r).heap[j]? = W.heap[j]? := by
  unfold resWorld
  rw [Below.heap_setCell _ _ _ _ hj, Below.heap_setCell _ _ _ _ hj, Below.heap_setCell _ _ _ _ hj, Below.heap_setCell _ _ _ _ hj, Below.heap_setCell _ _ _ _ hj, Below.heap_setCell _ _ _ _ hj]

theorem res_below {B b : Nat} (hb : B ≤ b) (W : World) (r : Req) : Below B W (resWorld W b r) :=
  ((((((Below.refl B W).setCell (p := ⟨b, 0, none⟩) hb _).setCell (p := ⟨b, 1, none⟩) hb _).setCell (p := ⟨b, 2, none⟩) hb _).setCell (p := ⟨b, 3, none⟩) hb _).setCell (p := ⟨b, 4, none⟩) hb _).setCell (p := ⟨b, 5, none⟩) hb _

theorem QAt.res {base qb b : Nat} {X : Q} {sV fV : Value} {W : World} {r0 : Req} (h : QAt base qb X sV fV W) (hb : W.heap[b]? = some (reqO r0)) (r : Req) : QAt base qb X sV fV (resWorld W b r) := by
  have hB := res_below (Nat.zero_le b) W r
  have hgr : W.grownBy (resWorld W b r) (some b) := ⟨hB.os, hB.tape, hB.output, hB.size, fun j _ hj => res_other W b r j (fun e => hj (by rw [e]))⟩
  obtain ⟨xs, h1, h2⟩ := h.slots
  refine ⟨h.big, kept_at hgr h.blk ?_, ⟨xs, h1.kept hgr (.inr (fun e => row_ne h1 hb (by decide) e.symm)), h2⟩, h.free.kept hgr (.inr (fun e => row_ne h.free hb (by decide) e.symm))⟩
  intro e
  simp at e
  rw [← e, h.blk] at hb
  simp at hb

/-- The way out of 'push'. -/
theorem push_ends {base qb g cap pb z : Nat} {Y : Q} {r : Req} {fV : Value} {W w6 : World} {tmps : Array Value} (h4 : tmps.getD 4 undef = .pointer (some ⟨pb + 1, 0, none⟩)) (hpb : W.heap.size ≤ pb) (q : QAt base qb Y (.slice (some ⟨g, 0, none⟩) Y.n cap) fV w6) (hz : w6.heap[pb + 1]? = some (reqO zeroReq)) (hb : Below base W w6) (hbs : base ≤ W.heap.size) (t : Kept W w6) :
    bodyPost Yba.prog Yba.f11 (fun e w' => e = .returned (reqV { r with slot := z }) ∧ (∃ g' cap' fV', QAt base qb Y (.slice (some ⟨g', 0, none⟩) Y.n cap') fV' w') ∧ Below base W w' ∧ Kept W w') .ret { tmps := tmps, defers := [] } (resWorld w6 (pb + 1) { r with slot := z }) := by
  refine bodyPost_ret_by (results_cell_row rfl _ _ (pb + 1) 60 #[N64 r.txn, N64 r.op, N64 r.want, N64 r.seq, N64 r.key, N64 z] (0, 0) _ h4 (res_block hz) Yba.underlying60 rfl (by kernel_rfl)) rfl ?_
  refine ⟨rfl, ⟨g, cap, fV, q.res hz _⟩, hb.trans (res_below (by omega) _ _), ?_⟩
  intro j cur t' fr hj a1 a2 a3
  rw [res_other _ _ _ _ (by have := lt_of_some hj; omega)]
  exact t j cur t' fr hj a1 a2 a3

set_option maxRecDepth 100000 in
set_option maxHeartbeats 1600000 in
theorem push_old (base qb g cap c z : Nat) (X : Q) (m : List Req) (A : List Nat) (r : Req) (fg fcap : Nat) (W : World) (h : QAt base qb X (.slice (some ⟨g, 0, none⟩) X.n cap) (.slice (some ⟨fg, 0, none⟩) (A.length + 1) fcap) W) (hI : Inv X m c) (hc : c ≤ 1024) (hbs : base ≤ W.heap.size)
    (hf : X.free = A ++ [z]) :
    Calls Yba.prog 11 #[.pointer (some ⟨qb, 0, none⟩), reqV r] W fun e w' => e = .returned (reqV { r with slot := takeSlot X }) ∧ (∃ g' cap' fV', QAt base qb (pushQ X r) (.slice (some ⟨g', 0, none⟩) (pushQ X r).n cap') fV' w') ∧ Below base W w' ∧ Kept W w' := by
  have c0 := h.c0
  have c1 := h.c1
  have fq := h.frozenQ
  have hzlt : z < X.n := (hI.free.2 z (by simp [hf])).1
  have hfr := h.free
  rw [hf] at hfr
  simp only [List.length_append, List.length_cons, List.length_nil, Nat.zero_add] at hfr
  have hfc : W.cell? ⟨fg, A.length, none⟩ = some (N64 z) := ownsRow_cell hfr (by simp)
  have hfcap : A.length ≤ fcap := by have := (ownsRow_block hfr).2.1; omega
  have hqb := lt_of_some h.blk
  have hfg := World.block_lt_of_cell? W _ hfc
  have hal : A.length ≤ 1024 := by
    have := hI.sizes
    rw [hf] at this
    simp at this
    omega
  go_enter Yba.func11, Yba.ntmps11
  go_wp2
  have q3 := ((h.popFree hf).alloc (reqO { r with slot := z })).alloc (reqO zeroReq)
  have b3 : Below base W (((W.setCell ⟨qb, 1, none⟩ (.slice (some ⟨fg, 0, none⟩) A.length fcap)).alloc (reqO { r with slot := z })).alloc (reqO zeroReq)) := (((Below.refl base W).setCell (p := ⟨qb, 1, none⟩) h.big _).alloc (by simpa [World.setCell] using hbs) _).alloc (by simp [World.setCell]; omega) _
  have t3 : Kept W (((W.setCell ⟨qb, 1, none⟩ (.slice (some ⟨fg, 0, none⟩) A.length fcap)).alloc (reqO { r with slot := z })).alloc (reqO zeroReq)) := ((h.keptQ _ _).trans (keptAlloc _ _)).trans (keptAlloc _ _)
  have hp := two_new (W.setCell ⟨qb, 1, none⟩ (.slice (some ⟨fg, 0, none⟩) A.length fcap)) (reqO { r with slot := z }) (reqO zeroReq)
  rw [show (W.setCell ⟨qb, 1, none⟩ (.slice (some ⟨fg, 0, none⟩) A.length fcap)).heap.size = W.heap.size by simp [World.setCell]] at hp
  obtain ⟨hp1, hp2⟩ := hp
  clear c0 c1 fq hfr hfc hfcap hqb hfg
  change Code.wp Yba.prog _ _ _ (((W.setCell ⟨qb, 1, none⟩ (.slice (some ⟨fg, 0, none⟩) A.length fcap)).alloc (reqO { r with slot := z })).alloc (reqO zeroReq))
  generalize ((W.setCell ⟨qb, 1, none⟩ (.slice (some ⟨fg, 0, none⟩) A.length fcap)).alloc (reqO { r with slot := z })).alloc (reqO zeroReq) = W3 at q3 b3 t3 hp1 hp2 ⊢
  obtain ⟨pb, hpb⟩ : ∃ pb, pb = W.heap.size := ⟨_, rfl⟩
  rw [← hpb] at hp1 hp2 ⊢
  have Hpb : Hid (pb = W.heap.size) := hpb
  clear hpb
  have c0 : W3.cell? ⟨qb, 0, none⟩ = some (.slice (some ⟨g, 0, none⟩) X.n cap) := q3.c0
  have fs := q3.frozenS
  have r0 : W3.cell? ⟨g, z * 10, none⟩ = some _ := q3.rqc (s := z) hzlt (c := 0) (by omega)
  have r1 := q3.rqc (s := z) hzlt (c := 1) (by omega)
  have r2 := q3.rqc (s := z) hzlt (c := 2) (by omega)
  have r3 := q3.rqc (s := z) hzlt (c := 3) (by omega)
  have r4 := q3.rqc (s := z) hzlt (c := 4) (by omega)
  have r5 := q3.rqc (s := z) hzlt (c := 5) (by omega)
  obtain ⟨p0, p1, p2, p3, p4, p5, pf⟩ := req_cells hp1
  go_region
  have e1 : takeSlot X = z := by simp [takeSlot, hf]
  have e2 : taken X = { X with free := A } := by simp [taken, hf]
  have hw := q3.wrote (s := z) hzlt { r with slot := z }
  have hwk := q3.wroteKept (s := z) hzlt { r with slot := z }
  have hWW : wrote W3 g z { r with slot := z } = (((((W3.setCell ⟨g, z * 10, none⟩ (.int .i64 r.txn)).setCell ⟨g, z * 10 + 1, none⟩ (.int .i64 r.op)).setCell ⟨g, z * 10 + 2, none⟩ (.int .i64 r.want)).setCell ⟨g, z * 10 + 3, none⟩ (.int .i64 r.seq)).setCell ⟨g, z * 10 + 4, none⟩ (.int .i64 r.key)).setCell ⟨g, z * 10 + 5, none⟩ (.int .i64 z) := rfl
  rw [← hWW]
  generalize wrote W3 g z { r with slot := z } = W4 at hw hwk ⊢
  obtain ⟨q4, b34, _⟩ := hw
  have b4 := b3.trans b34
  have t4 := t3.trans hwk
  have hp1' := hwk _ _ _ _ hp1 (by decide) (by decide) (by decide)
  have hp2' := hwk _ _ _ _ hp2 (by decide) (by decide) (by decide)
  clear c0 fs r0 r1 r2 r3 r4 r5 p0 p1 p2 p3 p4 p5 pf hwk hWW
  obtain ⟨p0, p1, p2, p3, p4, p5, pf⟩ := req_cells hp1'
  obtain ⟨Y0, hY0⟩ : ∃ Y0, Y0 = held { X with free := A } z { r with slot := z } := ⟨_, rfl⟩
  have hY0n : Y0.n = X.n := by rw [hY0]; rfl
  have q4' : QAt base qb Y0 (.slice (some ⟨g, 0, none⟩) Y0.n cap) (.slice (some ⟨fg, 0, none⟩) A.length fcap) W4.drew := by rw [hY0]; exact q4.drewN 1
  have t0 : Thread Y0 0 (slotsOf m) := by rw [hY0]; exact ⟨hI.every.len, hI.every.ends, hI.every.links, hI.every.nodup⟩
  have t1 : Thread Y0 1 (slotsOf (exclusive m)) := by rw [hY0]; exact ⟨hI.excl.len, hI.excl.ends, hI.excl.links, hI.excl.nodup⟩
  have hlt : ∀ x ∈ slotsOf m, x < Y0.n := fun x hx => by
    obtain ⟨r', hr', e⟩ := mem_slots.1 hx
    rw [hY0n]
    exact e ▸ (hI.at' r' hr').1
  have hsz := hI.sizes
  have hzn : z < Y0.n := by rw [hY0n]; exact hzlt
  have hml : (slotsOf m).length ≤ 1024 := by simp [slotsOf]; omega
  have hel : (slotsOf (exclusive m)).length ≤ 1024 := by
    have : (slotsOf (exclusive m)).length ≤ m.length := by simp [slotsOf, exclusive]; exact List.length_filter_le _ _
    omega
  have hl0 := fun d (hd : d < 2) => link_spec base qb g cap 0 z d Y0 (slotsOf m) _ W4.drew q4' t0 hlt hml hzn (by omega) hd (by omega)
  have hP : pushQ X r = if r.want = 2 then linkQ (linkQ Y0 0 z (sideOf r)) 1 z (sideOf r) else linkQ Y0 0 z (sideOf r) := by
    unfold pushQ
    rw [e1, e2, hY0]
  have HP : Hid (pushQ X r = if r.want = 2 then linkQ (linkQ Y0 0 z (sideOf r)) 1 z (sideOf r) else linkQ Y0 0 z (sideOf r)) := hP
  clear hP hY0 q4 e2
  have hY1n : ∀ d, (linkQ Y0 0 z d).n = Y0.n := fun d => (linkQ_keeps Y0 0 z d).1
  have hl1 := fun d (hd : d < 2) (w5 : World) (q5 : QAt base qb (linkQ Y0 0 z d) (.slice (some ⟨g, 0, none⟩) Y0.n cap) (.slice (some ⟨fg, 0, none⟩) A.length fcap) w5) => link_spec base qb g cap 1 z d (linkQ Y0 0 z d) (slotsOf (exclusive m)) _ w5 (by rw [hY1n]; exact q5) (t1.other (by decide)) (fun x hx => by rw [hY1n]; exact hlt x (excl_sub hx)) hel (by rw [hY1n]; exact hzn) (by omega) hd (by rw [hY1n]; omega)
  by_cases hkey : r.key < 0 <;> by_cases hwant : r.want = 2
  · have hside : sideOf r = 0 := by simp [sideOf, hkey]
    go_wp2_with (first
      | (go_at_call 15; have _t := hl0; refine (hl0 0 (by omega)).mono ?_; rintro e w5 ⟨rfl, q5, b5, t5⟩; clear hl0 _t; have hp5 := t5 _ _ _ _ hp1' (by decide) (by decide) (by decide); have hp6 := t5 _ _ _ _ hp2' (by decide) (by decide) (by decide); obtain ⟨s0, s1, s2, s3, s4, s5, sf⟩ := req_cells (r := { r with slot := z }) hp5; obtain ⟨u0, u1, u2, u3, u4, u5, uf⟩ := req_cells (r := zeroReq) hp6)
      | (go_at_call 15; refine (hl1 0 (by omega) _ q5).mono ?_; rintro e w6 ⟨rfl, q6, b6, t6⟩; have hp7 := t6 _ _ _ _ hp5 (by decide) (by decide) (by decide); have hp8 := t6 _ _ _ _ hp6 (by decide) (by decide) (by decide); obtain ⟨v0, v1, v2, v3, v4, v5, vf⟩ := req_cells (r := { r with slot := z }) hp7; obtain ⟨x0, x1, x2, x3, x4, x5, xf⟩ := req_cells (r := zeroReq) hp8))
    have hWW : resWorld w6 (pb + 1) { r with slot := z } = (((((w6.setCell ⟨pb + 1, 0, none⟩ (.int .i64 r.txn)).setCell ⟨pb + 1, 1, none⟩ (.int .i64 r.op)).setCell ⟨pb + 1, 2, none⟩ (.int .i64 2)).setCell ⟨pb + 1, 3, none⟩ (.int .i64 r.seq)).setCell ⟨pb + 1, 4, none⟩ (.int .i64 r.key)).setCell ⟨pb + 1, 5, none⟩ (.int .i64 z) := by rw [resWorld, hwant]
    rw [← hWW, HP.out, if_pos hwant, hside, e1]
    exact push_ends rfl (Nat.le_of_eq Hpb.out.symm) (by rw [(linkQ_keeps _ 1 z 0).1]; exact q6) hp8 ((b4.drew.trans b5).trans b6) hbs ((t4.trans t5).trans t6)
  · have hside : sideOf r = 0 := by simp [sideOf, hkey]
    have hwb : (r.want == 2) = false := by simpa using hwant
    go_wp2_with (first
      | (go_at_call 15; have _t := hl0; refine (hl0 0 (by omega)).mono ?_; rintro e w5 ⟨rfl, q5, b5, t5⟩; clear hl0 _t; have hp5 := t5 _ _ _ _ hp1' (by decide) (by decide) (by decide); have hp6 := t5 _ _ _ _ hp2' (by decide) (by decide) (by decide); obtain ⟨s0, s1, s2, s3, s4, s5, sf⟩ := req_cells (r := { r with slot := z }) hp5; obtain ⟨u0, u1, u2, u3, u4, u5, uf⟩ := req_cells (r := zeroReq) hp6))
    have hWW : resWorld w5 (pb + 1) { r with slot := z } = (((((w5.setCell ⟨pb + 1, 0, none⟩ (.int .i64 r.txn)).setCell ⟨pb + 1, 1, none⟩ (.int .i64 r.op)).setCell ⟨pb + 1, 2, none⟩ (.int .i64 r.want)).setCell ⟨pb + 1, 3, none⟩ (.int .i64 r.seq)).setCell ⟨pb + 1, 4, none⟩ (.int .i64 r.key)).setCell ⟨pb + 1, 5, none⟩ (.int .i64 z) := rfl
    rw [← hWW, HP.out, if_neg hwant, hside, e1]
    exact push_ends rfl (Nat.le_of_eq Hpb.out.symm) (by rw [(linkQ_keeps _ 0 z 0).1]; exact q5) hp6 (b4.drew.trans b5) hbs (t4.trans t5)
  · have hside : sideOf r = 1 := by simp [sideOf, hkey]
    go_wp2_with (first
      | (go_at_call 15; have _t := hl0; refine (hl0 1 (by omega)).mono ?_; rintro e w5 ⟨rfl, q5, b5, t5⟩; clear hl0 _t; have hp5 := t5 _ _ _ _ hp1' (by decide) (by decide) (by decide); have hp6 := t5 _ _ _ _ hp2' (by decide) (by decide) (by decide); obtain ⟨s0, s1, s2, s3, s4, s5, sf⟩ := req_cells (r := { r with slot := z }) hp5; obtain ⟨u0, u1, u2, u3, u4, u5, uf⟩ := req_cells (r := zeroReq) hp6)
      | (go_at_call 15; refine (hl1 1 (by omega) _ q5).mono ?_; rintro e w6 ⟨rfl, q6, b6, t6⟩; have hp7 := t6 _ _ _ _ hp5 (by decide) (by decide) (by decide); have hp8 := t6 _ _ _ _ hp6 (by decide) (by decide) (by decide); obtain ⟨v0, v1, v2, v3, v4, v5, vf⟩ := req_cells (r := { r with slot := z }) hp7; obtain ⟨x0, x1, x2, x3, x4, x5, xf⟩ := req_cells (r := zeroReq) hp8))
    have hWW : resWorld w6 (pb + 1) { r with slot := z } = (((((w6.setCell ⟨pb + 1, 0, none⟩ (.int .i64 r.txn)).setCell ⟨pb + 1, 1, none⟩ (.int .i64 r.op)).setCell ⟨pb + 1, 2, none⟩ (.int .i64 2)).setCell ⟨pb + 1, 3, none⟩ (.int .i64 r.seq)).setCell ⟨pb + 1, 4, none⟩ (.int .i64 r.key)).setCell ⟨pb + 1, 5, none⟩ (.int .i64 z) := by rw [resWorld, hwant]
    rw [← hWW, HP.out, if_pos hwant, hside, e1]
    exact push_ends rfl (Nat.le_of_eq Hpb.out.symm) (by rw [(linkQ_keeps _ 1 z 1).1]; exact q6) hp8 ((b4.drew.trans b5).trans b6) hbs ((t4.trans t5).trans t6)
  · have hside : sideOf r = 1 := by simp [sideOf, hkey]
    have hwb : (r.want == 2) = false := by simpa using hwant
    go_wp2_with (first
      | (go_at_call 15; have _t := hl0; refine (hl0 1 (by omega)).mono ?_; rintro e w5 ⟨rfl, q5, b5, t5⟩; clear hl0 _t; have hp5 := t5 _ _ _ _ hp1' (by decide) (by decide) (by decide); have hp6 := t5 _ _ _ _ hp2' (by decide) (by decide) (by decide); obtain ⟨s0, s1, s2, s3, s4, s5, sf⟩ := req_cells (r := { r with slot := z }) hp5; obtain ⟨u0, u1, u2, u3, u4, u5, uf⟩ := req_cells (r := zeroReq) hp6))
    have hWW : resWorld w5 (pb + 1) { r with slot := z } = (((((w5.setCell ⟨pb + 1, 0, none⟩ (.int .i64 r.txn)).setCell ⟨pb + 1, 1, none⟩ (.int .i64 r.op)).setCell ⟨pb + 1, 2, none⟩ (.int .i64 r.want)).setCell ⟨pb + 1, 3, none⟩ (.int .i64 r.seq)).setCell ⟨pb + 1, 4, none⟩ (.int .i64 r.key)).setCell ⟨pb + 1, 5, none⟩ (.int .i64 z) := rfl
    rw [← hWW, HP.out, if_neg hwant, hside, e1]
    exact push_ends rfl (Nat.le_of_eq Hpb.out.symm) (by rw [(linkQ_keeps _ 0 z 1).1]; exact q5) hp6 (b4.drew.trans b5) hbs (t4.trans t5)
end Go.Proofs.Ybulkaraw

/-
  THE CONTRACT OF '(*queue).push': no slot is free.
-/
import Derived.Test.YbulkarawPush
namespace Go.Proofs.Ybulkaraw
open Go.RowKit

theorem Yba.info79 : (Yba.prog.info? 79).map (fun i => (i.zero, i.size, i.bytes)) = some (some (.agg #[N64 0, N64 0, N64 0, N64 0, N64 0, N64 0, N64 0, N64 0, N64 0, N64 0]), 10, 80) := by kernel_rfl

theorem ownsRow_form {w : World} {base e size n : Nat} {v : Value} {xs : List Value} (h : w.ownsRow base e size v n xs) : ∃ o cap, v = .slice o n cap := by
  rcases h.2 with ⟨rfl, rfl⟩ | ⟨g, cap, cur, h1, _⟩
  · exact ⟨none, 0, rfl⟩
  · exact ⟨_, cap, h1⟩

theorem cells_new (w : World) (cs : Array Value) (t : TypeId) {b : Nat} (hb : b = w.heap.size) : ∀ j u, cs.toList[j]? = some u → (w.alloc (.cells cs t)).cell? ((⟨b, 0, none⟩ : Addr).add j) = some u := by
  intro j u hj
  subst hb
  have h : (w.alloc (.cells cs t)).heap[w.heap.size]? = some (.cells cs t) := by show (w.heap.push _)[w.heap.size]? = _; simp
  rw [Addr.add_lit, Nat.zero_add]
  rw [World.cell?, h]
  simpa using hj

abbrev zeros10 : List Value := [N64 0, N64 0, N64 0, N64 0, N64 0, N64 0, N64 0, N64 0, N64 0, N64 0]

theorem zeros_at (T : Q) (s : Nat) (h1 : T.rq s = zeroReq) (h2 : ∀ d k, T.nb s d k = 0) (c : Nat) (hc : c < 10) : zeros10[c]? = some (scell T s c) := by
  match c, hc with
  | 0, _ => simp [scell, h1, zeroReq]
  | 1, _ => simp [scell, h1, zeroReq]
  | 2, _ => simp [scell, h1, zeroReq]
  | 3, _ => simp [scell, h1, zeroReq]
  | 4, _ => simp [scell, h1, zeroReq]
  | 5, _ => simp [scell, h1, zeroReq]
  | 6, _ => simp [scell, h2]
  | 7, _ => simp [scell, h2]
  | 8, _ => simp [scell, h2]
  | 9, _ => simp [scell, h2]
  | c + 10, hc => omega

/-- A slot more. -/
theorem QAt.grow {base qb g4 cap4 : Nat} {X : Q} {sV fV : Value} {W w4 : World} {o : Obj} {xs : List Value} (h : QAt base qb X sV fV W) (hxs : W.ownsRow base 79 10 sV X.n xs) (hxc : ∀ s, s < X.n → ∀ c, c < 10 → xs[s * 10 + c]? = some (scell X s c)) (hf : X.free = [])
    (hg : (W.alloc o).grownBy w4 sV.ownBlock) (hown : w4.ownsRow base 79 10 (.slice (some ⟨g4, 0, none⟩) (X.n + 1) cap4) (X.n + 1) (xs ++ zeros10)) :
    QAt base qb (taken X) (.slice (some ⟨g4, 0, none⟩) (X.n + 1) cap4) fV (w4.setCell ⟨qb, 0, none⟩ (.slice (some ⟨g4, 0, none⟩) (X.n + 1) cap4)) ∧ Kept W (w4.setCell ⟨qb, 0, none⟩ (.slice (some ⟨g4, 0, none⟩) (X.n + 1) cap4)) := by
  have e2 : taken X = { X with n := X.n + 1, rq := fun s => if s = X.n then zeroReq else X.rq s, nb := fun s d k => if s = X.n then 0 else X.nb s d k } := by simp [taken, hf]
  have hbk : w4.heap[qb]? = some (.cells (qcells X sV fV) 68 (0, 0)) := kept_at hg (kept_at (World.grownBy_alloc W o none) h.blk (by simp)) (row_ne hxs h.blk (by decide))
  have hlen : xs.length = X.n * 10 := hxs.1
  have hfr := (h.free.alloc o).kept hg (rows_ne (hxs.alloc o) (h.free.alloc o) (by decide))
  have hown' : w4.ownsRow base 79 10 (.slice (some ⟨g4, 0, none⟩) (X.n + 1) cap4) (taken X).n (xs ++ zeros10) := by rw [e2]; exact hown
  refine ⟨⟨h.big, ?_, ⟨_, hown'.kept (grown_setCell w4 _ _) (.inr (fun e => row_ne hown hbk (by decide) e.symm)), fun s hs c hc => ?_⟩, ?_⟩, ?_⟩
  · rw [setCell_block hbk, e2]
    simp [qcells]
  · rw [e2] at hs ⊢
    have hs' : s < X.n + 1 := hs
    by_cases e : s = X.n
    · subst e
      rw [List.getElem?_append_right (by omega), show X.n * 10 + c - xs.length = c by omega]
      exact zeros_at _ _ (by simp) (by simp) c hc
    · rw [List.getElem?_append_left (by omega), hxc s (by omega) c hc]
      unfold scell
      simp [e]
  · rw [e2]
    exact hfr.kept (grown_setCell w4 _ _) (.inr (fun e => row_ne hfr hbk (by decide) e.symm))
  · intro j cur t fr hj h1 h2 h3
    refine kept_at (grown_setCell w4 _ _) (kept_at hg (kept_at (World.grownBy_alloc W o none) hj (by simp)) (row_ne hxs hj h2)) ?_
    intro e
    simp at e
    subst e
    rw [h.blk] at hj
    simp at hj
    exact h1 hj.2.1.symm

set_option maxRecDepth 100000 in
set_option maxHeartbeats 1600000 in
theorem push_new (base qb c : Nat) (X : Q) (m : List Req) (r : Req) (sV fV : Value) (W : World) (h : QAt base qb X sV fV W) (hI : Inv X m c) (hc : c < 1024) (hbs : base ≤ W.heap.size)
    (hf : X.free = []) :
    Calls Yba.prog 11 #[.pointer (some ⟨qb, 0, none⟩), reqV r] W fun e w' => e = .returned (reqV { r with slot := takeSlot X }) ∧ (∃ g' cap' fV', QAt base qb (pushQ X r) (.slice (some ⟨g', 0, none⟩) (pushQ X r).n cap') fV' w') ∧ Below base W w' ∧ Kept W w' := by
  obtain ⟨i0, hi, hz0, hz1, hz2⟩ := info_parts Yba.info79
  have hrows := h.slots
  obtain ⟨xs, hxs, hxc⟩ := hrows
  obtain ⟨so, scap, hsv⟩ := ownsRow_form hxs
  have hfr := h.free
  rw [hf] at hfr
  obtain ⟨fo, fcap, hfv⟩ := ownsRow_form hfr
  simp only [List.length_nil] at hfv
  subst hsv hfv
  have c0 : W.cell? ⟨qb, 0, none⟩ = some (.slice so X.n scap) := h.c0
  have c1 : W.cell? ⟨qb, 1, none⟩ = some (.slice fo 0 fcap) := h.c1
  have fq := h.frozenQ
  have hqb := lt_of_some h.blk
  have hsz := hI.sizes
  have q2 := (h.alloc (reqO { r with slot := X.n })).alloc (reqO zeroReq)
  have x2 := (hxs.alloc (reqO { r with slot := X.n })).alloc (reqO zeroReq)
  have hp := two_new W (reqO { r with slot := X.n }) (reqO zeroReq)
  have b2 : Below base W ((W.alloc (reqO { r with slot := X.n })).alloc (reqO zeroReq)) := ((Below.refl base W).alloc hbs _).alloc (by simp; omega) _
  have t2 : Kept W ((W.alloc (reqO { r with slot := X.n })).alloc (reqO zeroReq)) := (keptAlloc _ _).trans (keptAlloc _ _)
  go_enter Yba.func11, Yba.ntmps11
  go_wp2_with (at_builtin; refine wpList_append_own_at _ rfl _ _ 62 rfl base 79 i0 _ 10 80 Yba.underlying62 hi hz0 hz1 hz2 rfl (by decide) _ _ _ rfl (x2.alloc _) ⟨W.heap.size + 1 + 1, 0, none⟩ 1 1 zeros10 rfl rfl (cells_new _ _ _ (by simp)) (by simp [Value.oneCell']) (by unfold maxLen; omega) (by omega) (by simp; omega) ?_; intro v4 w4 hown4 hg4 hnil4 hloc4; clear hnil4 hloc4; obtain ⟨g4, cap4, hv4⟩ := ownsRow_value hown4 (by omega); rw [hv4] at hown4 ⊢; clear hv4; have hbk := kept_at hg4 (kept_at (World.grownBy_alloc _ _ none) q2.blk (by simp)) (row_ne x2 q2.blk (by decide)); have d1 : w4.cell? ⟨qb, 0, none⟩ = some (.slice so X.n scap) := (by simp [World.cell?, hbk, qcells]); have d2 : w4.frozen? ⟨qb, 0, none⟩ = false := (by simp [World.frozen?, hbk]); have hb4 := (b2.alloc (by simp; omega) _).grown hg4 (by simp; omega) (fun j e => (x2.lt j e).1))
  obtain ⟨q3, t3'⟩ := q2.grow x2 hxc hf hg4 hown4
  have b3 := hb4.setCell (p := ⟨qb, 0, none⟩) h.big (.slice (some ⟨g4, 0, none⟩) (X.n + 1) cap4)
  have t3 := t2.trans t3'
  have hp1 := t3' _ _ _ _ hp.1 (by decide) (by decide) (by decide)
  have hp2 := t3' _ _ _ _ hp.2 (by decide) (by decide) (by decide)
  have ok := hI.takenOk
  have hltX : ∀ x ∈ slotsOf m, x < X.n := fun x hx => by
    obtain ⟨r', hr', e⟩ := mem_slots.1 hx
    exact e ▸ (hI.at' r' hr').1
  have e1 : takeSlot X = X.n := by simp [takeSlot, hf]
  have s0T : Thread (held (taken X) X.n { r with slot := X.n }) 0 (slotsOf m) :=
    hI.every.of_same (congrFun ok.len 0) (fun e => congrFun (congrFun ok.en 0) e) (fun s hs e => (ok.same s (hltX s hs)).2 e 0)
  have s1T : Thread (held (taken X) X.n { r with slot := X.n }) 1 (slotsOf (exclusive m)) :=
    hI.excl.of_same (congrFun ok.len 1) (fun e => congrFun (congrFun ok.en 1) e) (fun s hs e => (ok.same s (hltX s (excl_sub hs))).2 e 1)
  have hTn : (taken X).n = X.n + 1 := by simp [taken, hf]
  obtain ⟨T, hT⟩ : ∃ T, T = taken X := ⟨_, rfl⟩
  rw [← hT] at q3 s0T s1T hTn
  clear hown4 hg4 hbk d1 d2 hb4 q2 x2 b2 t2 hp t3' hxs hxc c0 c1 fq hfr hqb h ok hltX
  obtain ⟨pb, hpb⟩ : ∃ pb, pb = W.heap.size := ⟨_, rfl⟩
  obtain ⟨z, hzX⟩ : ∃ z, z = X.n := ⟨_, rfl⟩
  generalize w4.setCell ⟨qb, 0, none⟩ (.slice (some ⟨g4, 0, none⟩) (X.n + 1) cap4) = W3 at q3 b3 t3 hp1 hp2 ⊢
  rw [← hpb] at hp1 hp2 ⊢
  rw [← hzX] at hp1 s0T s1T e1 q3 hTn ⊢
  have hzT : z < T.n := by rw [hTn]; exact Nat.lt_succ_self _
  have q3 : QAt base qb T (.slice (some ⟨g4, 0, none⟩) T.n cap4) (.slice fo 0 fcap) W3 := by rw [hTn]; exact q3
  have Hpb : Hid (pb = W.heap.size) := hpb
  have HzX : Hid (z = X.n) := hzX
  clear hpb hzX
  have hzm : z + 1 ≤ 1024 := by have := HzX.out; omega
  have c0 : W3.cell? ⟨qb, 0, none⟩ = some (.slice (some ⟨g4, 0, none⟩) (z + 1) cap4) := by rw [← hTn]; exact q3.c0
  have r0 : W3.cell? ⟨g4, z * 10, none⟩ = some _ := q3.rqc (s := z) hzT (c := 0) (by omega)
  have fs := q3.frozenS
  have r1 := q3.rqc (s := z) hzT (c := 1) (by omega)
  have r2 := q3.rqc (s := z) hzT (c := 2) (by omega)
  have r3 := q3.rqc (s := z) hzT (c := 3) (by omega)
  have r4 := q3.rqc (s := z) hzT (c := 4) (by omega)
  have r5 := q3.rqc (s := z) hzT (c := 5) (by omega)
  obtain ⟨p0, p1, p2, p3, p4, p5, pf⟩ := req_cells hp1
  go_region
  have hw := q3.wrote (s := z) hzT { r with slot := z }
  have hwk := q3.wroteKept (s := z) hzT { r with slot := z }
  have hWW : wrote W3 g4 z { r with slot := z } = (((((W3.setCell ⟨g4, z * 10, none⟩ (.int .i64 r.txn)).setCell ⟨g4, z * 10 + 1, none⟩ (.int .i64 r.op)).setCell ⟨g4, z * 10 + 2, none⟩ (.int .i64 r.want)).setCell ⟨g4, z * 10 + 3, none⟩ (.int .i64 r.seq)).setCell ⟨g4, z * 10 + 4, none⟩ (.int .i64 r.key)).setCell ⟨g4, z * 10 + 5, none⟩ (.int .i64 z) := rfl
  rw [← hWW]
  generalize wrote W3 g4 z { r with slot := z } = W4 at hw hwk ⊢
  obtain ⟨q4, b34, _⟩ := hw
  have b4 := b3.trans b34
  have t4 := t3.trans hwk
  have hp1' := hwk _ _ _ _ hp1 (by decide) (by decide) (by decide)
  have hp2' := hwk _ _ _ _ hp2 (by decide) (by decide) (by decide)
  clear c0 fs r0 r1 r2 r3 r4 r5 p0 p1 p2 p3 p4 p5 pf hwk hWW
  obtain ⟨p0, p1, p2, p3, p4, p5, pf⟩ := req_cells hp1'
  obtain ⟨Y0, hY0⟩ : ∃ Y0, Y0 = held T z { r with slot := z } := ⟨_, rfl⟩
  have hY0n : Y0.n = z + 1 := by rw [hY0]; exact hTn
  have q4' : QAt base qb Y0 (.slice (some ⟨g4, 0, none⟩) Y0.n cap4) (.slice fo 0 fcap) W4.drew := by rw [hY0]; exact q4.drewN 1
  have t0 : Thread Y0 0 (slotsOf m) := by rw [hY0]; exact s0T
  have t1 : Thread Y0 1 (slotsOf (exclusive m)) := by rw [hY0]; exact s1T
  have hlt : ∀ x ∈ slotsOf m, x < Y0.n := fun x hx => by
    obtain ⟨r', hr', e⟩ := mem_slots.1 hx
    rw [hY0n, HzX.out]
    exact Nat.lt_succ_of_lt (e ▸ (hI.at' r' hr').1)
  have hzn : z < Y0.n := by rw [hY0n]; exact Nat.lt_succ_self _
  have hml : (slotsOf m).length ≤ 1024 := by simp [slotsOf]; omega
  have hel : (slotsOf (exclusive m)).length ≤ 1024 := by
    have : (slotsOf (exclusive m)).length ≤ m.length := by simp [slotsOf, exclusive]; exact List.length_filter_le _ _
    omega
  have hl0 := fun d (hd : d < 2) => link_spec base qb g4 cap4 0 z d Y0 (slotsOf m) _ W4.drew q4' t0 hlt hml hzn (by omega) hd (by rw [hY0n]; exact hzm)
  have hP : pushQ X r = if r.want = 2 then linkQ (linkQ Y0 0 z (sideOf r)) 1 z (sideOf r) else linkQ Y0 0 z (sideOf r) := by
    unfold pushQ
    rw [e1, ← hT, hY0]
  have HP : Hid (pushQ X r = if r.want = 2 then linkQ (linkQ Y0 0 z (sideOf r)) 1 z (sideOf r) else linkQ Y0 0 z (sideOf r)) := hP
  clear hP hY0 q4 hT
  have hY1n : ∀ d, (linkQ Y0 0 z d).n = Y0.n := fun d => (linkQ_keeps Y0 0 z d).1
  have hl1 := fun d (hd : d < 2) (w5 : World) (q5 : QAt base qb (linkQ Y0 0 z d) (.slice (some ⟨g4, 0, none⟩) Y0.n cap4) (.slice fo 0 fcap) w5) => link_spec base qb g4 cap4 1 z d (linkQ Y0 0 z d) (slotsOf (exclusive m)) _ w5 (by rw [hY1n]; exact q5) (t1.other (by decide)) (fun x hx => by rw [hY1n]; exact hlt x (excl_sub hx)) hel (by rw [hY1n]; exact hzn) (by omega) hd (by rw [hY1n, hY0n]; exact hzm)
  by_cases hkey : r.key < 0 <;> by_cases hwant : r.want = 2
  · have hside : sideOf r = 0 := by simp [sideOf, hkey]
    go_wp2_with (first
      | (go_at_call 15; have _t := hl0; refine (hl0 0 (by omega)).mono ?_; rintro e w5 ⟨rfl, q5, b5, t5⟩; clear hl0 _t; have hp5 := t5 _ _ _ _ hp1' (by decide) (by decide) (by decide); have hp6 := t5 _ _ _ _ hp2' (by decide) (by decide) (by decide); obtain ⟨s0, s1, s2, s3, s4, s5, sf⟩ := req_cells (r := { r with slot := z }) hp5; obtain ⟨u0, u1, u2, u3, u4, u5, uf⟩ := req_cells (r := zeroReq) hp6)
      | (go_at_call 15; refine (hl1 0 (by omega) _ q5).mono ?_; rintro e w6 ⟨rfl, q6, b6, t6⟩; have hp7 := t6 _ _ _ _ hp5 (by decide) (by decide) (by decide); have hp8 := t6 _ _ _ _ hp6 (by decide) (by decide) (by decide); obtain ⟨v0, v1, v2, v3, v4, v5, vf⟩ := req_cells (r := { r with slot := z }) hp7; obtain ⟨x0, x1, x2, x3, x4, x5, xf⟩ := req_cells (r := zeroReq) hp8))
    have hWW : resWorld w6 (pb + 1) { r with slot := z } = (((((w6.setCell ⟨pb + 1, 0, none⟩ (.int .i64 r.txn)).setCell ⟨pb + 1, 1, none⟩ (.int .i64 r.op)).setCell ⟨pb + 1, 2, none⟩ (.int .i64 2)).setCell ⟨pb + 1, 3, none⟩ (.int .i64 r.seq)).setCell ⟨pb + 1, 4, none⟩ (.int .i64 r.key)).setCell ⟨pb + 1, 5, none⟩ (.int .i64 z) := by rw [resWorld, hwant]
    rw [← hWW, HP.out, if_pos hwant, hside, e1]
    exact push_ends rfl (Nat.le_of_eq Hpb.out.symm) (by rw [(linkQ_keeps _ 1 z 0).1]; exact q6) hp8 ((b4.drew.trans b5).trans b6) hbs ((t4.trans t5).trans t6)
  · have hside : sideOf r = 0 := by simp [sideOf, hkey]
    have hwb : (r.want == 2) = false := by simpa using hwant
    go_wp2_with (first
      | (go_at_call 15; have _t := hl0; refine (hl0 0 (by omega)).mono ?_; rintro e w5 ⟨rfl, q5, b5, t5⟩; clear hl0 _t; have hp5 := t5 _ _ _ _ hp1' (by decide) (by decide) (by decide); have hp6 := t5 _ _ _ _ hp2' (by decide) (by decide) (by decide); obtain ⟨s0, s1, s2, s3, s4, s5, sf⟩ := req_cells (r := { r with slot := z }) hp5; obtain ⟨u0, u1, u2, u3, u4, u5, uf⟩ := req_cells (r := zeroReq) hp6))
    have hWW : resWorld w5 (pb + 1) { r with slot := z } = (((((w5.setCell ⟨pb + 1, 0, none⟩ (.int .i64 r.txn)).setCell ⟨pb + 1, 1, none⟩ (.int .i64 r.op)).setCell ⟨pb + 1, 2, none⟩ (.int .i64 r.want)).setCell ⟨pb + 1, 3, none⟩ (.int .i64 r.seq)).setCell ⟨pb + 1, 4, none⟩ (.int .i64 r.key)).setCell ⟨pb + 1, 5, none⟩ (.int .i64 z) := rfl
    rw [← hWW, HP.out, if_neg hwant, hside, e1]
    exact push_ends rfl (Nat.le_of_eq Hpb.out.symm) (by rw [(linkQ_keeps _ 0 z 0).1]; exact q5) hp6 (b4.drew.trans b5) hbs (t4.trans t5)
  · have hside : sideOf r = 1 := by simp [sideOf, hkey]
    go_wp2_with (first
      | (go_at_call 15; have _t := hl0; refine (hl0 1 (by omega)).mono ?_; rintro e w5 ⟨rfl, q5, b5, t5⟩; clear hl0 _t; have hp5 := t5 _ _ _ _ hp1' (by decide) (by decide) (by decide); have hp6 := t5 _ _ _ _ hp2' (by decide) (by decide) (by decide); obtain ⟨s0, s1, s2, s3, s4, s5, sf⟩ := req_cells (r := { r with slot := z }) hp5; obtain ⟨u0, u1, u2, u3, u4, u5, uf⟩ := req_cells (r := zeroReq) hp6)
      | (go_at_call 15; refine (hl1 1 (by omega) _ q5).mono ?_; rintro e w6 ⟨rfl, q6, b6, t6⟩; have hp7 := t6 _ _ _ _ hp5 (by decide) (by decide) (by decide); have hp8 := t6 _ _ _ _ hp6 (by decide) (by decide) (by decide); obtain ⟨v0, v1, v2, v3, v4, v5, vf⟩ := req_cells (r := { r with slot := z }) hp7; obtain ⟨x0, x1, x2, x3, x4, x5, xf⟩ := req_cells (r := zeroReq) hp8))
    have hWW : resWorld w6 (pb + 1) { r with slot := z } = (((((w6.setCell ⟨pb + 1, 0, none⟩ (.int .i64 r.txn)).setCell ⟨pb + 1, 1, none⟩ (.int .i64 r.op)).setCell ⟨pb + 1, 2, none⟩ (.int .i64 2)).setCell ⟨pb + 1, 3, none⟩ (.int .i64 r.seq)).setCell ⟨pb + 1, 4, none⟩ (.int .i64 r.key)).setCell ⟨pb + 1, 5, none⟩ (.int .i64 z) := by rw [resWorld, hwant]
    rw [← hWW, HP.out, if_pos hwant, hside, e1]
    exact push_ends rfl (Nat.le_of_eq Hpb.out.symm) (by rw [(linkQ_keeps _ 1 z 1).1]; exact q6) hp8 ((b4.drew.trans b5).trans b6) hbs ((t4.trans t5).trans t6)
  · have hside : sideOf r = 1 := by simp [sideOf, hkey]
    have hwb : (r.want == 2) = false := by simpa using hwant
    go_wp2_with (first
      | (go_at_call 15; have _t := hl0; refine (hl0 1 (by omega)).mono ?_; rintro e w5 ⟨rfl, q5, b5, t5⟩; clear hl0 _t; have hp5 := t5 _ _ _ _ hp1' (by decide) (by decide) (by decide); have hp6 := t5 _ _ _ _ hp2' (by decide) (by decide) (by decide); obtain ⟨s0, s1, s2, s3, s4, s5, sf⟩ := req_cells (r := { r with slot := z }) hp5; obtain ⟨u0, u1, u2, u3, u4, u5, uf⟩ := req_cells (r := zeroReq) hp6))
    have hWW : resWorld w5 (pb + 1) { r with slot := z } = (((((w5.setCell ⟨pb + 1, 0, none⟩ (.int .i64 r.txn)).setCell ⟨pb + 1, 1, none⟩ (.int .i64 r.op)).setCell ⟨pb + 1, 2, none⟩ (.int .i64 r.want)).setCell ⟨pb + 1, 3, none⟩ (.int .i64 r.seq)).setCell ⟨pb + 1, 4, none⟩ (.int .i64 r.key)).setCell ⟨pb + 1, 5, none⟩ (.int .i64 z) := rfl
    rw [← hWW, HP.out, if_neg hwant, hside, e1]
    exact push_ends rfl (Nat.le_of_eq Hpb.out.symm) (by rw [(linkQ_keeps _ 0 z 1).1]; exact q5) hp6 (b4.drew.trans b5) hbs (t4.trans t5)

/-- 'push': whatever the free slots. -/
theorem push_spec (base qb c : Nat) (X : Q) (m : List Req) (r : Req) (sV fV : Value) (W : World) (h : QAt base qb X sV fV W) (hI : Inv X m c) (hc : c < 1024) (hbs : base ≤ W.heap.size) :
    Calls Yba.prog 11 #[.pointer (some ⟨qb, 0, none⟩), reqV r] W fun e w' => e = .returned (reqV { r with slot := takeSlot X }) ∧ (∃ g' cap' fV', QAt base qb (pushQ X r) (.slice (some ⟨g', 0, none⟩) (pushQ X r).n cap') fV' w') ∧ Below base W w' ∧ Kept W w' := by
  rcases nil_or_snoc X.free with hf | ⟨A, z, hf⟩
  · exact push_new base qb c X m r sV fV W h hI hc hbs hf
  · have hn : 0 < X.n := by have := (hI.free.2 z (by simp [hf])).1; omega
    obtain ⟨g, cap, rfl⟩ := h.value hn
    have hfr := h.free
    rw [hf] at hfr
    obtain ⟨fg, fcap, hfv⟩ := ownsRow_value hfr (by simp)
    simp only [List.length_append, List.length_cons, List.length_nil, Nat.zero_add] at hfv
    subst hfv
    exact push_old base qb g cap c z X m A r fg fcap W h hI (by omega) hbs hf
end Go.Proofs.Ybulkaraw

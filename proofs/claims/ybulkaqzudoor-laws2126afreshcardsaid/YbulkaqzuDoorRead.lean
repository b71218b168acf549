/-
  THE CONTRACT OF '(*zzs2126areader).ReadAt'.
-/
import Derived.Test.YbulkaqzuDoorProg
import Derived.WalkKit
import Derived.WalkSpells
import Derived.WalkLawsBesides
import Derived.Maps.AppendAt
import Derived.Laws.CopyOwn
import Derived.Deep.QuietTactic
import Derived.BigQuiet
namespace Go.Proofs.YbulkaqzuDoor
open Go.RowKit

abbrev B8 (x : Int) : Value := .int .u8 x
abbrev I64 (x : Int) : Value := .int .i64 x

theorem Ybad.info2 : (Ybad.prog.info? 2).map (fun i => (i.zero, i.size, i.bytes)) = some (some (.int .i64 0), 1, 8) := by kernel_rfl
theorem Ybad.info5 : (Ybad.prog.info? 5).map (fun i => (i.zero, i.size, i.bytes)) = some (some (.int .u8 0), 1, 1) := by kernel_rfl

/-- What the slice of bytes holds. -/
structure Bytes (w : World) (base : Nat) (dao : Option Addr) (zs : List Int) : Prop where
  cells : zs ≠ [] → ∃ b off, dao = some ⟨b, off, none⟩ ∧ b < base ∧ ∀ j, j < zs.length → w.cell? ⟨b, off + j, none⟩ = some (B8 (zs.getD j 0))

theorem lt_of_some {w : World} {i : Nat} {o : Obj} (h : w.heap[i]? = some o) : i < w.heap.size := (Array.getElem?_eq_some_iff.1 h).1

theorem kept_at {w w' : World} {row : Option Nat} {i : Nat} {o : Obj} (hg : w.grownBy w' row) (h : w.heap[i]? = some o) (hne : some i ≠ row) : w'.heap[i]? = some o :=
  (hg.block i (lt_of_some h) hne).trans h

theorem Bytes.kept {w w' : World} {base : Nat} {dao : Option Addr} {zs : List Int} (h : Bytes w base dao zs) (hb : Below base w w') : Bytes w' base dao zs :=
  ⟨fun hz => by
    obtain ⟨b, off, h1, h2, h3⟩ := h.cells hz
    exact ⟨b, off, h1, h2, fun j hj => (hb.cell (p := ⟨b, _, none⟩) h2).trans (h3 j hj)⟩⟩

theorem ownsRow_one {w : World} {base e k : Nat} {v : Value} {xs : List Value} (h : w.ownsRow base e 1 v (k + 1) xs) : ∃ g cap, v = .slice (some ⟨g, 0, none⟩) (k + 1) cap := by
  rcases h.2 with ⟨_, h2⟩ | ⟨g, cap, cur, h1, _⟩
  · omega
  · exact ⟨g, cap, h1⟩

/-- A row is not a block of another element type. -/
theorem row_ne {w : World} {base e n j : Nat} {v : Value} {xs : List Value} {cur : Array Value} {t : TypeId} {fr : Nat × Nat} (h : w.ownsRow base e 1 v n xs) (hj : w.heap[j]? = some (.cells cur t fr)) (he : t ≠ e) : some j ≠ v.ownBlock := by
  intro e1
  rcases h.2 with ⟨rfl, _⟩ | ⟨g, cap, cur', rfl, _, h5, _⟩
  · simp [Value.ownBlock] at e1
  · simp [Value.ownBlock] at e1
    subst e1
    rw [hj] at h5
    simp at h5
    exact he h5.2.1

section
variable {w : World} {b : Nat} {x y z u : Value} {t : TypeId}
theorem c30 (h : w.heap[b]? = some (.cells #[x, y, z] t (0, 0))) : w.cell? ⟨b, 0, none⟩ = some x := by simp [World.cell?, h]
theorem c31 (h : w.heap[b]? = some (.cells #[x, y, z] t (0, 0))) : w.cell? ⟨b, 1, none⟩ = some y := by simp [World.cell?, h]
theorem c32 (h : w.heap[b]? = some (.cells #[x, y, z] t (0, 0))) : w.cell? ⟨b, 2, none⟩ = some z := by simp [World.cell?, h]
theorem c3f {c : Array Value} (h : w.heap[b]? = some (.cells c t (0, 0))) (o : Nat) : w.frozen? ⟨b, o, none⟩ = false := by simp [World.frozen?, h]
theorem c40 (h : w.heap[b]? = some (.cells #[x, y, z, u] t (0, 0))) : w.cell? ⟨b, 0, none⟩ = some x := by simp [World.cell?, h]
theorem c41 (h : w.heap[b]? = some (.cells #[x, y, z, u] t (0, 0))) : w.cell? ⟨b, 1, none⟩ = some y := by simp [World.cell?, h]
theorem c42 (h : w.heap[b]? = some (.cells #[x, y, z, u] t (0, 0))) : w.cell? ⟨b, 2, none⟩ = some z := by simp [World.cell?, h]
theorem c43 (h : w.heap[b]? = some (.cells #[x, y, z, u] t (0, 0))) : w.cell? ⟨b, 3, none⟩ = some u := by simp [World.cell?, h]
end

theorem copy_src {w w4 : World} {v : Value} {base rb db doff : Nat} {zs : List Int} (hD : ∀ j, j < zs.length → w.cell? ⟨db, doff + j, none⟩ = some (B8 (zs.getD j 0))) (hb4 : Below base w w4) (hdb : db < base) (hrb : base ≤ rb) (off : Nat) :
    ∀ j u, ((zs.drop off).map B8)[j]? = some u → (w4.setCell ⟨rb, 2, none⟩ v).cell? ((⟨db, doff + off, none⟩ : Addr).add j) = some u := by
  intro j u hj
  rw [List.getElem?_map, List.getElem?_drop] at hj
  cases hz : zs[off + j]? with
  | none => rw [hz] at hj; simp at hj
  | some z =>
    rw [hz] at hj
    simp at hj
    have hlt : off + j < zs.length := (List.getElem?_eq_some_iff.1 hz).1
    have hadd : (⟨db, doff + off, none⟩ : Addr).add j = ⟨db, doff + (off + j), none⟩ := by
      unfold Addr.add
      split
      · rename_i h; subst h; rfl
      · simp [Nat.add_assoc]
    rw [hadd, World.cell?_setCell_other _ ⟨rb, 2, none⟩ ⟨db, doff + (off + j), none⟩ _ (by intro e; injection e with e1; omega), hb4.cell (p := ⟨db, _, none⟩) hdb, hD _ hlt, ← hj, List.getD_eq_getElem?_getD, hz]
    rfl

/-- What ReadAt leaves: the offset is kept, the buffer's row holds 'ys', nothing else of what was there has turned but the reader's own offsets. -/
structure ReadLeft (base rb : Nat) (dV eV : Value) (offs : List Int) (off : Int) (w w' : World) : Prop where
  rd : ∃ oV, w'.heap[rb]? = some (.cells #[dV, eV, oV] 30 (0, 0)) ∧ w'.ownsRow base 2 1 oV (offs.length + 1) ((offs ++ [off]).map I64)
  keep : ∀ (j : Nat) (cur : Array Value), w.heap[j]? = some (Obj.cells cur 35 (0, 0)) → w'.heap[j]? = some (Obj.cells cur 35 (0, 0))
  below : Below base w w'

theorem setRow_at (w : World) (g k : Nat) (cs : Array Value) (h : g ≠ k) : (w.setRow g cs).heap[k]? = w.heap[k]? := setRow_other w g k cs (fun e => h e.symm)

theorem one_cells (l : List Int) : ∀ v ∈ l.map B8, v.oneCell' = true := by
  intro v hv
  obtain ⟨z, _, rfl⟩ := List.mem_map.1 hv
  rfl

theorem grown_setCell (w : World) (a : Addr) (v : Value) : w.grownBy (w.setCell a v) (some a.block) :=
  ⟨rfl, rfl, rfl, by simp [World.setCell], fun k _ hk => Below.heap_setCell w a v k (fun e => hk (by rw [e]))⟩

theorem grown_setRow (w : World) (g : Nat) (cs : Array Value) : w.grownBy (w.setRow g cs) (some g) :=
  ⟨rfl, rfl, rfl, by simp [World.setRow], fun k _ hk => setRow_other w g k cs (fun e => hk (by rw [e]))⟩

theorem setCell_block {w : World} {b o : Nat} {cs : Array Value} {t : TypeId} {fr : Nat × Nat} (h : w.heap[b]? = some (.cells cs t fr)) (v : Value) : (w.setCell ⟨b, o, none⟩ v).heap[b]? = some (.cells (cs.setIfInBounds o v) t fr) := by
  simp [World.setCell, Array.getElem?_modify, h]

/-- The world behind 'r.offs = append(r.offs, off)'. -/
theorem offs_left {base rb g4 cap4 : Nat} {dV eV oV : Value} {offs : List Int} {off : Int} {w w4 : World} (hbs : base ≤ w.heap.size) (hrb : base ≤ rb)
    (hR : w.heap[rb]? = some (.cells #[dV, eV, oV] 30 (0, 0))) (hO : w.ownsRow base 2 1 oV offs.length (offs.map I64))
    (hg4 : (w.alloc (.cells #[.int .i64 off] 2)).grownBy w4 oV.ownBlock) (hown4 : w4.ownsRow base 2 1 (.slice (some ⟨g4, 0, none⟩) (offs.length + 1) cap4) (offs.length + 1) (offs.map I64 ++ [.int .i64 off])) :
    ReadLeft base rb dV eV offs off w (w4.setCell ⟨rb, 2, none⟩ (.slice (some ⟨g4, 0, none⟩) (offs.length + 1) cap4)) := by
  have hR4 := kept_at hg4 (kept_at (World.grownBy_alloc w _ none) hR (by simp)) (row_ne hO hR (by decide))
  have hb4 := ((Below.refl base w).alloc hbs (.cells #[.int .i64 off] 2)).grown hg4 (by simp; omega) (fun j e => (hO.lt j e).1)
  refine ⟨⟨_, by simpa using setCell_block (o := 2) hR4 (.slice (some ⟨g4, 0, none⟩) (offs.length + 1) cap4), ?_⟩, ?_, hb4.setCell (p := ⟨rb, 2, none⟩) hrb _⟩
  · have := hown4.kept (grown_setCell w4 ⟨rb, 2, none⟩ (.slice (some ⟨g4, 0, none⟩) (offs.length + 1) cap4)) (.inr (fun e => row_ne hown4 hR4 (by decide) e.symm))
    simpa using this
  · intro j cur hj
    have h4 := kept_at hg4 (kept_at (World.grownBy_alloc w _ none) hj (by simp)) (row_ne hO hj (by decide))
    refine kept_at (grown_setCell w4 _ _) h4 ?_
    intro e
    simp at e
    rw [e, hR4] at h4
    simp at h4

theorem ReadLeft.drewN {base rb : Nat} {dV eV : Value} {offs : List Int} {off : Int} {w w' : World} (h : ReadLeft base rb dV eV offs off w w') (q : Nat) : ReadLeft base rb dV eV offs off w (w'.drewN q) :=
  ⟨h.rd, h.keep, below_drewN h.below q⟩

theorem ReadLeft.setRow {base rb g : Nat} {dV eV : Value} {offs : List Int} {off : Int} {w w' : World} {cur : Array Value} (h : ReadLeft base rb dV eV offs off w w') (hg : w'.heap[g]? = some (.cells cur 5 (0, 0))) (hbg : base ≤ g) (cs : Array Value) :
    ReadLeft base rb dV eV offs off w (w'.setRow g cs) := by
  obtain ⟨oV, h1, h2⟩ := h.rd
  refine ⟨⟨oV, kept_at (grown_setRow w' g cs) h1 ?_, h2.kept (grown_setRow w' g cs) (.inr (fun e => row_ne h2 hg (by decide) e.symm))⟩, ?_, below_setRow h.below hbg cs⟩
  · intro e
    simp at e
    rw [e, hg] at h1
    simp at h1
  · intro j c hj
    have := h.keep j c hj
    refine kept_at (grown_setRow w' g cs) this ?_
    intro e
    simp at e
    rw [e, hg] at this
    simp at this

set_option maxRecDepth 100000 in
set_option maxHeartbeats 800000 in
theorem readAt_some (base rb g : Nat) (db doff : Nat) (zs : List Int) (dcap : Nat) (oV : Value) (offs : List Int) (n bcap : Nat) (off : Nat) (cur : Array Value) (w : World) (_hl : zs.length ≤ 1024) (hol : offs.length ≤ 1024) (hdc : zs.length ≤ dcap) (hpos : 0 < n)
    (hR : w.heap[rb]? = some (.cells #[.slice (some ⟨db, doff, none⟩) zs.length dcap, .nilIface, oV] 30 (0, 0))) (hO : w.ownsRow base 2 1 oV offs.length (offs.map I64))
    (hD : ∀ j, j < zs.length → w.cell? ⟨db, doff + j, none⟩ = some (B8 (zs.getD j 0))) (hdb : db < base) (hbs : base ≤ w.heap.size)
    (hg : w.heap[g]? = some (.cells cur 5 (0, 0))) (hcur : n ≤ cur.size) (hbg : base ≤ g) (hoff : off + n = zs.length) (hrb : base ≤ rb) :
    Calls Ybad.prog 49 #[.pointer (some ⟨rb, 0, none⟩), .slice (some ⟨g, 0, none⟩) n bcap, .int .i64 off] w fun e w' => e = .returned (.tuple #[.int .i64 n, .nilIface]) ∧
      ReadLeft base rb (.slice (some ⟨db, doff, none⟩) zs.length dcap) .nilIface offs off w w' ∧ w'.heap[g]? = some (.cells ((zs.drop off).map B8 ++ cur.toList.drop n).toArray 5 (0, 0)) := by
  obtain ⟨i0, hi, hz0, hz1, hz2⟩ := info_parts Ybad.info2
  have hrlt := lt_of_some hR
  have hne : g ≠ rb := by
    intro e
    rw [e, hR] at hg
    simp at hg
  have c0 : w.cell? ⟨rb, 0, none⟩ = some (.slice (some ⟨db, doff, none⟩) zs.length dcap) := by simp [World.cell?, hR]
  have c1 : w.cell? ⟨rb, 1, none⟩ = some .nilIface := by simp [World.cell?, hR]
  have c2 : w.cell? ⟨rb, 2, none⟩ = some oV := by simp [World.cell?, hR]
  have ho1 : off < zs.length := by omega
  have ho2 : off < dcap := by omega
  have ho3 : ¬ zs.length < off := by omega
  have ho4 : ¬ ((off : Int) < 0) := by omega
  have hsub : zs.length - off = n := by omega
  have Hoff : Hid (off + n = zs.length) := hoff
  clear hoff
  go_enter Ybad.func49, Ybad.ntmps49
  go_wp2_with (first
    | (at_builtin; refine wpList_append_own_at _ rfl _ _ 28 rfl base 2 i0 (.int .i64 0) 1 8 Ybad.underlying28 hi hz0 hz1 hz2 rfl (by decide) oV _ _ rfl (hO.alloc _) ⟨w.heap.size, 0, none⟩ 1 1 [.int .i64 off] rfl rfl (cell_one_new _ _ _) (by simp [Value.oneCell']) (by unfold maxLen; omega) (by omega) (by simp; omega) ?_; intro v4 w4 hown4 hg4 hnil4 hloc4; obtain ⟨g4, cap4, hv4⟩ := ownsRow_one hown4; rw [hv4] at hown4 hloc4 ⊢; clear hnil4 hv4; have hR4 := kept_at hg4 (kept_at (World.grownBy_alloc w _ none) hR (by simp)) (row_ne hO hR (by decide)); have hG4 := kept_at hg4 (kept_at (World.grownBy_alloc w _ none) hg (by simp)) (row_ne hO hg (by decide)); have d0 := c30 hR4; have d1 := c31 hR4; have d2 := c32 hR4; have d3 := c3f hR4 2; have hb4 := ((Below.refl base w).alloc hbs (.cells #[.int .i64 off] 2)).grown hg4 (by simp; omega) (fun j e => (hO.lt j e).1); have hG5 := fun v => (Below.heap_setCell w4 ⟨rb, 2, none⟩ v g hne).trans hG4; have hS5 := fun v => copy_src (v := v) hD hb4 hdb hrb off)
    | (have _t := hS5; refine wpList_copy_own rfl _ _ 22 22 rfl 5 Ybad.underlying22 (by kernel_rfl) g 0 n bcap ⟨db, doff + off, none⟩ _ _ rfl rfl cur 5 (hG5 _) ((zs.drop off).map B8) (by simp; omega) (hS5 _) (by simp; omega) (one_cells _) ?_))
  go_ret2
  have hL := (offs_left (dV := .slice (some ⟨db, doff, none⟩) zs.length dcap) (eV := .nilIface) hbs hrb hR hO hg4 hown4)
  refine ⟨rfl, hL.setRow (hG5 _) hbg _, ?_⟩
  exact setRow_heap _ g cur _ 5 _ (hG5 _)

set_option maxRecDepth 100000 in
set_option maxHeartbeats 800000 in
/-- Nothing is left to read. -/
theorem readAt_zero (base rb : Nat) (dao bao : Option Addr) (zs : List Int) (dcap : Nat) (oV : Value) (offs : List Int) (bcap : Nat) (off : Nat) (w : World) (hl : zs.length ≤ 1024) (hol : offs.length ≤ 1024) (hdc : zs.length ≤ dcap)
    (hR : w.heap[rb]? = some (.cells #[.slice dao zs.length dcap, .nilIface, oV] 30 (0, 0))) (hO : w.ownsRow base 2 1 oV offs.length (offs.map I64)) (hbs : base ≤ w.heap.size)
    (hoff : off = zs.length) (hrb : base ≤ rb) :
    Calls Ybad.prog 49 #[.pointer (some ⟨rb, 0, none⟩), .slice bao 0 bcap, .int .i64 off] w fun e w' => e = .returned (.tuple #[.int .i64 0, .nilIface]) ∧
      ReadLeft base rb (.slice dao zs.length dcap) .nilIface offs off w w' := by
  obtain ⟨i0, hi, hz0, hz1, hz2⟩ := info_parts Ybad.info2
  have hrlt := lt_of_some hR
  have c0 : w.cell? ⟨rb, 0, none⟩ = some (.slice dao zs.length dcap) := by simp [World.cell?, hR]
  have c1 : w.cell? ⟨rb, 1, none⟩ = some .nilIface := by simp [World.cell?, hR]
  have c2 : w.cell? ⟨rb, 2, none⟩ = some oV := by simp [World.cell?, hR]
  have ho1 : off ≤ zs.length := by omega
  have ho2 : off ≤ dcap := by omega
  have ho3 : ¬ zs.length < off := by omega
  have ho4 : ¬ ((off : Int) < 0) := by omega
  have hsub : zs.length - off = 0 := by omega
  clear hoff
  rcases Nat.lt_or_eq_of_le ho2 with hlt | heq
  case' inr => subst heq
  all_goals
    go_enter Ybad.func49, Ybad.ntmps49
    go_wp2_with (first
      | (at_builtin; refine wpList_append_own_at _ rfl _ _ 28 rfl base 2 i0 (.int .i64 0) 1 8 Ybad.underlying28 hi hz0 hz1 hz2 rfl (by decide) oV _ _ rfl (hO.alloc _) ⟨w.heap.size, 0, none⟩ 1 1 [.int .i64 off] rfl rfl (cell_one_new _ _ _) (by simp [Value.oneCell']) (by unfold maxLen; omega) (by omega) (by simp; omega) ?_; intro v4 w4 hown4 hg4 hnil4 hloc4; obtain ⟨g4, cap4, hv4⟩ := ownsRow_one hown4; rw [hv4] at hown4 hloc4 ⊢; clear hnil4 hv4; have hR4 := kept_at hg4 (kept_at (World.grownBy_alloc w _ none) hR (by simp)) (row_ne hO hR (by decide)); have d0 := c30 hR4; have d1 := c31 hR4; have d2 := c32 hR4; have d3 := c3f hR4 2)
      | (have _t := d3; refine wpList_copy_nothing rfl _ _ 22 22 rfl 5 Ybad.underlying22 (by kernel_rfl) bao _ 0 bcap _ _ rfl rfl (by simp) ?_))
    go_ret2
    exact ⟨rfl, offs_left hbs hrb hR hO hg4 hown4⟩

set_option maxRecDepth 100000 in
set_option maxHeartbeats 800000 in
/-- The reader fails. -/
theorem readAt_err (base rb : Nat) (dao bao : Option Addr) (zs : List Int) (dcap : Nat) (oV : Value) (offs : List Int) (n bcap : Nat) (t : TypeId) (ev : Value) (off : Int) (w : World) (hol : offs.length ≤ 1024)
    (hR : w.heap[rb]? = some (.cells #[.slice dao zs.length dcap, .iface t ev, oV] 30 (0, 0))) (hO : w.ownsRow base 2 1 oV offs.length (offs.map I64)) (hbs : base ≤ w.heap.size) (hrb : base ≤ rb) :
    Calls Ybad.prog 49 #[.pointer (some ⟨rb, 0, none⟩), .slice bao n bcap, .int .i64 off] w fun e w' => e = .returned (.tuple #[.int .i64 0, .iface t ev]) ∧
      ReadLeft base rb (.slice dao zs.length dcap) (.iface t ev) offs off w w' := by
  obtain ⟨i0, hi, hz0, hz1, hz2⟩ := info_parts Ybad.info2
  have hrlt := lt_of_some hR
  have c0 : w.cell? ⟨rb, 0, none⟩ = some (.slice dao zs.length dcap) := by simp [World.cell?, hR]
  have c1 : w.cell? ⟨rb, 1, none⟩ = some (.iface t ev) := by simp [World.cell?, hR]
  have c2 : w.cell? ⟨rb, 2, none⟩ = some oV := by simp [World.cell?, hR]
  go_enter Ybad.func49, Ybad.ntmps49
  go_wp2_with (first
    | (at_builtin; refine wpList_append_own_at _ rfl _ _ 28 rfl base 2 i0 (.int .i64 0) 1 8 Ybad.underlying28 hi hz0 hz1 hz2 rfl (by decide) oV _ _ rfl (hO.alloc _) ⟨w.heap.size, 0, none⟩ 1 1 [.int .i64 off] rfl rfl (cell_one_new _ _ _) (by simp [Value.oneCell']) (by unfold maxLen; omega) (by omega) (by simp; omega) ?_; intro v4 w4 hown4 hg4 hnil4 hloc4; obtain ⟨g4, cap4, hv4⟩ := ownsRow_one hown4; rw [hv4] at hown4 hloc4 ⊢; clear hnil4 hv4; have hR4 := kept_at hg4 (kept_at (World.grownBy_alloc w _ none) hR (by simp)) (row_ne hO hR (by decide)); have d0 := c30 hR4; have d1 := c31 hR4; have d2 := c32 hR4; have d3 := c3f hR4 2))
  go_quiet (fail)
  go_wp2
  go_ret2
  exact ⟨rfl, (offs_left hbs hrb hR hO hg4 hown4).drewN _⟩
end Go.Proofs.YbulkaqzuDoor

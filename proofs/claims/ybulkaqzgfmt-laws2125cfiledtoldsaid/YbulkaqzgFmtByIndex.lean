/-
  THE CONTRACTS OF '(*indexedStore).filed' AND '(*indexedStore).ByIndex' WHERE THE INDEX IS THERE.
-/
import Derived.Test.YbulkaqzgFmtFiled
import Derived.Test.YbulkaqzgFmtRange
namespace Go.Proofs.YbulkaqzgFmt
open Go.RowKit Go.StrMap Go.RwLone

theorem Ybaf.info33 : (Ybaf.prog.info? 33).map (fun i => (i.zero, i.size, i.bytes)) = some (some .nilIface, 1, 16) := by kernel_rfl

theorem filed_yes (x xi xm bk : Nat) (v : ByteArray) (lk : List (ByteArray × Value)) (w : World)
    (hc : w.cell? ⟨x, 8, none⟩ = some (.map (some xm))) (hm : w.heap[xm]? = some (mapObj [(idx, .pointer (some ⟨xi, 0, none⟩))])) (hi : w.cell? ⟨xi, 1, none⟩ = some (.map (some bk))) (hk : w.heap[bk]? = some (mapObj lk))
    (r : Option Nat) (hr : (getL v lk).getD (.map none) = .map r) :
    Calls Ybaf.prog 13 #[.pointer (some ⟨x, 0, none⟩), .string idx, .string v] w fun e w' => e = .returned (.tuple #[.map r, .nilIface]) ∧ w' = w := by
  have Hr : Hid ((getL v lk).getD (.map none) = .map r) := hr
  clear hr
  go_enter Ybaf.func13, Ybaf.ntmps13
  go_wp2_with (first
    | (at_lookup; refine wpList_lookup _ rfl _ _ 55 true rfl 9 50 Ybaf.underlying55 Ybaf.underlying9 (.pointer none) (Ybaf.zeroValue50 _) xm _ rfl hm idx rfl (.tuple #[.pointer (some ⟨xi, 0, none⟩), .bool true]) (by simp [getL]) ?_)
    | (at_lookup; refine wpList_lookup _ rfl _ _ 45 false rfl 9 48 Ybaf.underlying45 Ybaf.underlying9 (.map none) (Ybaf.zeroValue48 _) bk _ rfl hk v rfl (.map r) (by simpa using Hr.out) ?_))
  go_ret2
  exact ⟨rfl, rfl⟩

theorem sKeys_le (ps : List (Nat × Nat)) (v : ByteArray) : (sKeys ps v).length ≤ ps.length :=
  nodup_snoc (C := fun ps => (sKeys ps v).length ≤ ps.length) (by simp [sKeys]) (fun l p h => by
    rw [sKeys_snoc]
    split
    · unfold addKey
      split
      · simp; omega
      · simp; omega
    · simp; omega) ps

theorem oKeys_of_sKeys {ps : List (Nat × Nat)} {v k : ByteArray} : k ∈ sKeys ps v → k ∈ oKeys ps :=
  nodup_snoc (C := fun ps => k ∈ sKeys ps v → k ∈ oKeys ps) (by simp [sKeys]) (fun l p ih h => by
    rw [oKeys_snoc, mem_addKey]
    rw [sKeys_snoc] at h
    split at h
    · rcases mem_addKey.1 h with h | h
      · exact .inl (ih h)
      · exact .inr h
    · exact .inl (ih h)) ps

/-- How many rounds are left, off the iterator's block. -/
def iterLeft (r : Nat) (w : World) : Nat :=
  match w.heap[r]? with
  | some (.mapIter _ n seen _) => n - seen.size
  | _ => 0

theorem iterLeft_eq {r m n : Nat} {done : List Nat} {w : World} (h : w.heap[r]? = some (iterObj m n done)) : iterLeft r w = n - done.length := by
  simp [iterLeft, h, iterObj]

theorem row_not_iter {w : World} {base e r m n k : Nat} {done : List Nat} {v : Value} {xs : List Value} (h : w.ownsRow base e 1 v k xs) (hr : w.heap[r]? = some (iterObj m n done)) : v.ownBlock ≠ some r := by
  intro e
  rcases h.2 with ⟨rfl, _⟩ | ⟨g, cap, cur, rfl, _, h5, _⟩
  · simp [Value.ownBlock] at e
  · simp [Value.ownBlock] at e
    subst e
    rw [hr] at h5
    simp [iterObj] at h5

theorem row_not_map {w : World} {base e r k : Nat} {l : List (ByteArray × Value)} {v : Value} {xs : List Value} (h : w.ownsRow base e 1 v k xs) (hr : w.heap[r]? = some (mapObj l)) : v.ownBlock ≠ some r := by
  intro e
  rcases h.2 with ⟨rfl, _⟩ | ⟨g, cap, cur, rfl, _, h5, _⟩
  · simp [Value.ownBlock] at e
  · simp [Value.ownBlock] at e
    subst e
    rw [hr] at h5
    simp [mapObj] at h5

theorem ownsRow_mono {w : World} {base base' e k : Nat} {v : Value} {xs : List Value} (h : w.ownsRow base e 1 v k xs) (hb : base' ≤ base) : w.ownsRow base' e 1 v k xs := by
  refine ⟨h.1, ?_⟩
  rcases h.2 with h0 | ⟨g, cap, cur, h1, h2, h3⟩
  · exact .inl h0
  · exact .inr ⟨g, cap, cur, h1, Nat.le_trans hb h2, h3⟩

theorem ownsRow_one {w : World} {base e k : Nat} {v : Value} {xs : List Value} (h : w.ownsRow base e 1 v (k + 1) xs) : ∃ g cap, v = .slice (some ⟨g, 0, none⟩) (k + 1) cap := by
  rcases h.2 with ⟨_, h2⟩ | ⟨g, cap, cur, h1, _⟩
  · omega
  · exact ⟨g, cap, h1⟩

theorem length_le_of_nodup_lt {n : Nat} {l : List Nat} (hn : l.Nodup) (hl : ∀ i ∈ l, i < n) : l.length ≤ n := by
  have h := hn.length_le_of_subset (l₂ := List.range n) (fun i hi => by simpa using hl i hi)
  simpa using h

theorem perm_range {n : Nat} {l : List Nat} (hn : l.Nodup) (hl : ∀ i ∈ l, i < n) (ha : ∀ i, i < n → i ∈ l) : l.Perm (List.range n) := by
  rw [List.perm_iff_count]
  intro a
  rw [hn.count, List.nodup_range.count]
  by_cases h : a < n
  · simp [ha a h, h]
  · have : a ∉ l := fun e => h (hl a e)
    simp [this, h]

set_option maxRecDepth 100000 in
set_option maxHeartbeats 1600000 in
theorem byIndex_some (B : Nat) (ps : List (Nat × Nat)) (x xi xm : Nat) (ob sb : ByteArray → Nat) (vv : ByteArray → Value) (v : ByteArray) (w : World) (hn : ps.length ≤ 1024)
    (hS : Store B w ps x xi xm ob sb vv) (hv : v ∈ vVals ps) :
    Calls Ybaf.prog 7 #[.pointer (some ⟨x, 0, none⟩), .string idx, .string v] w fun e w' => ∃ (g cap : Nat) (ks : List ByteArray), ks.Perm (sKeys ps v) ∧ e = .returned (.tuple #[.slice (some ⟨g, 0, none⟩) ks.length cap, .nilIface]) ∧
      w'.ownsRow (x + 1) 33 1 (.slice (some ⟨g, 0, none⟩) ks.length cap) ks.length (ks.map (oVal ob)) ∧ Below x w w' := by
  have hx := lt_of_some hS.st
  have c1 : w.cell? ⟨x, 1, none⟩ = some (.int .i32 0) := by simp [World.cell?, hS.st]
  have c3 : w.cell? ⟨x, 3, none⟩ = some (.int .u32 0) := by simp [World.cell?, hS.st]
  have c4 : w.cell? ⟨x, 4, none⟩ = some (.int .u32 0) := by simp [World.cell?, hS.st]
  have c5 : w.cell? ⟨x, 5, none⟩ = some (.int .i32 0) := by simp [World.cell?, hS.st]
  have c7 : w.cell? ⟨x, 7, none⟩ = some (.map (some B)) := by simp [World.cell?, hS.st]
  have c8 : w.cell? ⟨x, 8, none⟩ = some (.map (some xm)) := by simp [World.cell?, hS.st]
  have fz : ∀ o, w.frozen? ⟨x, o, none⟩ = false := by intro o; simp [World.frozen?, hS.st]
  have ne_of : ∀ {j : Nat} {l : List (ByteArray × Value)}, w.heap[j]? = some (mapObj l) → j ≠ x := by
    intro j l h e
    rw [e, hS.st] at h
    simp [mapObj] at h
  have hxi : xi ≠ x := by
    intro e
    have := hS.xs
    rw [e, hS.st] at this
    simp at this
  -- the world behind RLock
  obtain ⟨w1, hw1⟩ : ∃ w1, w1 = w.setCell ⟨x, 5, none⟩ (.int .i32 1) := ⟨_, rfl⟩
  have hb0 : Below x w w1 := by rw [hw1]; exact (Below.refl x w).setCell (p := ⟨x, 5, none⟩) (Nat.le_refl _) _
  have hz1 : w1.heap.size = w.heap.size := by rw [hw1]; simp [World.setCell]
  have keep : ∀ {j : Nat} {o : Obj}, j ≠ x → w.heap[j]? = some o → w1.heap[j]? = some o := by
    intro j o hj h
    rw [hw1]
    exact (Below.heap_setCell w _ _ _ hj).trans h
  have oth : ∀ o, o ≠ 5 → w1.cell? ⟨x, o, none⟩ = w.cell? ⟨x, o, none⟩ := by
    intro o ho
    rw [hw1]
    exact World.cell?_setCell_other _ ⟨x, 5, none⟩ ⟨x, o, none⟩ _ (by intro e; injection e with e1 e2; exact ho e2.symm)
  have d1 : w1.cell? ⟨x, 1, none⟩ = some (.int .i32 0) := (oth 1 (by omega)).trans c1
  have d3 : w1.cell? ⟨x, 3, none⟩ = some (.int .u32 0) := (oth 3 (by omega)).trans c3
  have d5 : w1.cell? ⟨x, 5, none⟩ = some (.int .i32 1) := by rw [hw1]; exact World.cell?_setCell_same w ⟨x, 5, none⟩ _ c5
  have d7 : w1.cell? ⟨x, 7, none⟩ = some (.map (some B)) := (oth 7 (by omega)).trans c7
  have d8 : w1.cell? ⟨x, 8, none⟩ = some (.map (some xm)) := (oth 8 (by omega)).trans c8
  have df : w1.frozen? ⟨x, 5, none⟩ = false := by rw [hw1]; exact (World.frozen?_setCell _ _ _ _).trans (fz 5)
  have m1 := keep (ne_of hS.ix) hS.ix
  have m2 : w1.cell? ⟨xi, 1, none⟩ = some (.map (some (B + 1))) := by
    have := keep hxi hS.xs
    simp [World.cell?, this]
  have m3 := keep (ne_of hS.inv.mks) hS.inv.mks
  have m4 := keep (ne_of (hS.inv.sets v hv).2) (hS.inv.sets v hv).2
  have m5 := keep (ne_of hS.inv.mo) hS.inv.mo
  have hlen : (sKeys ps v).length ≤ ps.length := sKeys_le ps v
  have hx1 : x < w1.heap.size := by omega
  obtain ⟨i0, hi, hz0, hz1', hz2⟩ := info_parts Ybaf.info33
  have Hi2 : i0.bytes * (sKeys ps v).length ≤ 281474976710656 := by rw [hz2]; omega
  obtain ⟨L, hL⟩ : ∃ L : List (ByteArray × Value), L = (sKeys ps v).map fun k => (k, Value.agg #[]) := ⟨_, rfl⟩
  rw [← hL] at m4
  have hLl : L.length = (sKeys ps v).length := by rw [hL]; simp
  have HL : Hid (L = (sKeys ps v).map fun k => (k, Value.agg #[])) := hL
  have Hw1 : Hid (w1 = w.setCell ⟨x, 5, none⟩ (.int .i32 1)) := hw1
  have hgv : (getL v ((vVals ps).map fun v => (v, sVal sb v))).getD (.map none) = .map (some (sb v)) := by rw [getL_map, memB_of hv]; rfl
  have Hgv : Hid ((getL v ((vVals ps).map fun v => (v, sVal sb v))).getD (.map none) = .map (some (sb v))) := hgv
  have HLl : Hid (L.length = (sKeys ps v).length) := hLl
  have hLle : L.length ≤ 1024 := by omega
  have Hi3 : i0.bytes * L.length ≤ 281474976710656 := by rw [hz2]; omega
  clear hL hw1 hgv hLl Hi2 hlen c3 c7 c8 keep oth ne_of hz1
  go_enter_defers Ybaf.func7, Ybaf.ntmps7
  go_wp2_with (first
    | (go_at_call 11; refine (rlock_at x _ _ _ c1 c4 c5 (fz _)).mono ?_; rintro e w' ⟨rfl, hw'⟩; rw [← Hw1.out] at hw'; have hw'' := hw'.symm; clear hw'; subst hw'')
    | (go_at_call 13; refine (filed_yes x xi xm (B + 1) v _ _ d8 m1 m2 m3 (some (sb v)) Hgv.out).mono ?_; rintro e w' ⟨rfl, hw'⟩; have hw'' := hw'.symm; clear hw'; subst hw'')
    | (at_len; refine wpList_len _ rfl _ 48 rfl 9 49 Ybaf.underlying48 (sb v) L rfl m4 ?_)
    | (at_make; refine wpList_make_own _ rfl _ _ 26 rfl w1.heap.size 33 i0 .nilIface 1 Ybaf.underlying26 hi hz0 hz1' _ _ _ L.length rfl rfl rfl Hi3 (by unfold maxLen; omega) (Nat.le_refl _) ?_; intro w2 hown2 hg2; have hm2 := kept_at hg2 m4 (by simp))
    | (at_range; refine wpList_range _ rfl _ 48 rfl 9 49 Ybaf.underlying48 (sb v) L rfl hm2 ?_))
  go_frame
  have hsb : sb v < w1.heap.size := lt_of_some m4
  have hB5 : B < w1.heap.size := lt_of_some m5
  have hs2 : w1.heap.size ≤ w2.heap.size := hg2.size
  have hb2 : Below w1.heap.size w1 w2 := (Below.refl _ _).grown hg2 (Nat.le_refl _) (fun j e => by cases e)
  obtain ⟨r, hr⟩ : ∃ r, r = w2.heap.size := ⟨_, rfl⟩
  have hfresh : (w2.alloc (iterObj (sb v) L.length [])).heap[r]? = some (iterObj (sb v) L.length []) := by rw [hr]; exact heap_alloc_new _ _
  have hrle : w1.heap.size ≤ r := by omega
  rw [← hr]
  clear hr
  go_loopw [10] (fun vs wr => ∃ (g cap : Nat) (done : List Nat), vs = .slice (some ⟨g, 0, none⟩) done.length cap ∧ done.Nodup ∧ (∀ i ∈ done, i < L.length) ∧ wr.heap[r]? = some (iterObj (sb v) L.length done) ∧
      wr.ownsRow w1.heap.size 33 1 (.slice (some ⟨g, 0, none⟩) done.length cap) done.length (done.map fun i => oVal ob ((sKeys ps v).getD i ⟨#[]⟩)) ∧ Below w1.heap.size w1 wr)
    (fun _ wr => iterLeft r wr)
  case atStart =>
    exact ⟨_, _, [], rfl, List.nodup_nil, by simp, hfresh, hown2.alloc _, hb2.alloc (by omega) _⟩
  case round =>
    obtain ⟨g, cap, done, rfl, hnd, hlt, hit, hown, hbl⟩ := hrel
    have hmv : wr.heap[sb v]? = some (mapObj L) := (hbl.block _ hsb).trans m4
    have hle := length_le_of_nodup_lt hnd hlt
    go_wp2_with (first
      | (at_next; refine wpList_next _ rfl _ rfl r (sb v) L done rfl hit hmv ?_ ?_))
    · -- nothing is left
      intro hall
      go_wp2_with fail
      refine leaves_cons (f := 12) (args := #[.pointer (some ⟨x, 1, none⟩)]) (by simp) (by simp [go_sem]) ?_
      refine (runlock_at x (.int .i32 0) (.int .u32 0) .returning _ ?_ ?_ ?_ ?_).mono ?_
      · exact (hbl.cell (p := ⟨x, 1, none⟩) hx1).trans d1
      · exact (hbl.cell (p := ⟨x, 3, none⟩) hx1).trans d3
      · exact (hbl.cell (p := ⟨x, 5, none⟩) hx1).trans d5
      · exact (hbl.frozen (p := ⟨x, 5, none⟩) hx1).trans df
      rintro e u' w'' ⟨rfl, rfl, rfl⟩
      have hperm : (done.map fun i => (sKeys ps v).getD i ⟨#[]⟩).Perm (sKeys ps v) := by
        have h1 := (perm_range hnd hlt hall).map fun i => (sKeys ps v).getD i ⟨#[]⟩
        rw [HLl.out] at h1
        have h2 : ((List.range (sKeys ps v).length).map fun i => (sKeys ps v).getD i ⟨#[]⟩) = sKeys ps v := by
          apply List.ext_getElem?
          intro i
          by_cases hi : i < (sKeys ps v).length
          · simp [hi, List.getD]
          · simp [hi]
        rwa [h2] at h1
      refine ⟨_, results_tmp2 rfl _ _ _, g, cap, done.map fun i => (sKeys ps v).getD i ⟨#[]⟩, hperm, ?_, ?_, ?_⟩
      · simp
      · have := ownsRow_setCell_below (ownsRow_mono hown (Nat.succ_le_of_lt hx1)) (a := ⟨x, 5, none⟩) (Nat.lt_succ_self _) (.int .i32 0)
        simpa [Function.comp_def] using this
      · exact (hb0.trans (hbl.mono (Nat.le_of_lt hx1))).setCell (p := ⟨x, 5, none⟩) (Nat.le_refl _) _
    · -- an entry has come
      intro i k u w3 hLi hnew hit3 hmv3 hg3 hsz3 hen
      clear hsz3
      have hki : (sKeys ps v)[i]? = some k ∧ u = .agg #[] := by
        rw [HL.out, List.getElem?_map] at hLi
        cases h : (sKeys ps v)[i]? with
        | none => rw [h] at hLi; simp at hLi
        | some k' =>
          rw [h] at hLi
          simp at hLi
          exact ⟨by rw [hLi.1], hLi.2.symm⟩
      have hil : i < L.length := lt_of_get hLi
      have Hk : Hid ((sKeys ps v).getD i ⟨#[]⟩ = k) := by
        show (sKeys ps v).getD i ⟨#[]⟩ = k
        rw [List.getD_eq_getElem?_getD, hki.1]; rfl
      have hko : k ∈ oKeys ps := oKeys_of_sKeys (List.mem_of_getElem? hki.1)
      have hown3 := hown.kept hg3 (.inr (row_not_iter hown hit))
      have hbl3 := hbl.grown hg3 hbl.size (fun j e => by cases e; exact hrle)
      have c73 : w3.cell? ⟨x, 7, none⟩ = some (.map (some B)) := (hbl3.cell (p := ⟨x, 7, none⟩) hx1).trans d7
      have hmo3 : w3.heap[B]? = some (mapObj ((oKeys ps).map fun k => (k, oVal ob k))) := (hbl3.block _ hB5).trans m5
      have hs3 := hbl3.size
      have hlt' : done.length < L.length := by
        have := length_le_of_nodup_lt (l := i :: done) (List.nodup_cons.2 ⟨hnew, hnd⟩) (fun j hj => by
          rcases List.mem_cons.1 hj with rfl | hj
          · exact hil
          · exact hlt j hj)
        simp at this
        omega
      clear hki hLi
      go_wp2_with (first
        | (at_lookup; refine wpList_lookup _ rfl _ _ 44 false rfl 9 33 Ybaf.underlying44 Ybaf.underlying9 .nilIface (Ybaf.zeroValue33 _) B _ rfl hmo3 k rfl (oVal ob k) (by rw [getL_map, memB_of hko]; rfl) ?_)
        | (at_builtin; refine wpList_append_own_at _ rfl _ _ 26 rfl w1.heap.size 33 i0 .nilIface 1 16 Ybaf.underlying26 hi hz0 hz1' hz2 rfl (by decide) _ _ _ rfl (hown3.alloc _) ⟨w3.heap.size, 0, none⟩ 1 1 [oVal ob k] rfl rfl (cell_one_new _ _ _) (by simp [Value.oneCell', oVal]) (by unfold maxLen; omega) (by omega) (by simp; omega) ?_; intro v4 w4 hown4 hg4 hnil4 hloc4; obtain ⟨g4, cap4, hv4⟩ := ownsRow_one hown4; rw [hv4] at hown4 hloc4 ⊢; clear hnil4 hv4))
      have hit4 : w4.heap[r]? = some (iterObj (sb v) L.length (done ++ [i])) := kept_at hg4 (kept_at (World.grownBy_alloc w3 _ none) hit3 (by simp)) (fun e => row_not_iter hown3 hit3 e.symm)
      have hbl4 := (hbl3.alloc hs3 _).grown hg4 (by simp; omega) (fun j e => (hown3.lt j e).1)
      go_roundw
      case rel =>
        refine ⟨g4, cap4, done ++ [i], by simp, ?_, ?_, hit4, ?_, hbl4⟩
        · rw [List.nodup_append]
          exact ⟨hnd, by simp, fun a ha b hb => by simp at hb; subst hb; intro e; subst e; exact hnew ha⟩
        · intro j hj
          rcases List.mem_append.1 hj with hj | hj
          · exact hlt j hj
          · simp at hj; subst hj; exact hil
        · simp only [List.map_append, List.map_cons, List.map_nil, List.length_append, List.length_cons, List.length_nil]
          rw [Hk.out]
          exact hown4
      case measure =>
        rw [iterLeft_eq hit4, iterLeft_eq hit]
        simp
        omega

theorem next_nil {P : Program} {w : World} {r : Nat} (h : w.heap[r]? = some (.mapIter none 0 #[] 0)) (ty : TypeId) : (Instr.next (.pointer (some ⟨r, 0, none⟩)) false ty).run P w = .ok (.tuple #[.bool false]) w := by
  simp [Instr.next, getObj, Sem.run, h, Result.andThen]

set_option maxRecDepth 100000 in
set_option maxHeartbeats 800000 in
/-- A value that nothing is filed under. -/
theorem byIndex_none (B : Nat) (ps : List (Nat × Nat)) (x xi xm : Nat) (ob sb : ByteArray → Nat) (vv : ByteArray → Value) (v : ByteArray) (w : World)
    (hS : Store B w ps x xi xm ob sb vv) (hv : ¬ v ∈ vVals ps) :
    Calls Ybaf.prog 7 #[.pointer (some ⟨x, 0, none⟩), .string idx, .string v] w fun e w' => ∃ (g cap : Nat), e = .returned (.tuple #[.slice (some ⟨g, 0, none⟩) 0 cap, .nilIface]) ∧
      w'.ownsRow (x + 1) 33 1 (.slice (some ⟨g, 0, none⟩) 0 cap) 0 [] ∧ Below x w w' := by
  have hx := lt_of_some hS.st
  have c1 : w.cell? ⟨x, 1, none⟩ = some (.int .i32 0) := by simp [World.cell?, hS.st]
  have c3 : w.cell? ⟨x, 3, none⟩ = some (.int .u32 0) := by simp [World.cell?, hS.st]
  have c4 : w.cell? ⟨x, 4, none⟩ = some (.int .u32 0) := by simp [World.cell?, hS.st]
  have c5 : w.cell? ⟨x, 5, none⟩ = some (.int .i32 0) := by simp [World.cell?, hS.st]
  have c7 : w.cell? ⟨x, 7, none⟩ = some (.map (some B)) := by simp [World.cell?, hS.st]
  have c8 : w.cell? ⟨x, 8, none⟩ = some (.map (some xm)) := by simp [World.cell?, hS.st]
  have fz : ∀ o, w.frozen? ⟨x, o, none⟩ = false := by intro o; simp [World.frozen?, hS.st]
  have ne_of : ∀ {j : Nat} {l : List (ByteArray × Value)}, w.heap[j]? = some (mapObj l) → j ≠ x := by
    intro j l h e
    rw [e, hS.st] at h
    simp [mapObj] at h
  have hxi : xi ≠ x := by
    intro e
    have := hS.xs
    rw [e, hS.st] at this
    simp at this
  -- the world behind RLock
  obtain ⟨w1, hw1⟩ : ∃ w1, w1 = w.setCell ⟨x, 5, none⟩ (.int .i32 1) := ⟨_, rfl⟩
  have hb0 : Below x w w1 := by rw [hw1]; exact (Below.refl x w).setCell (p := ⟨x, 5, none⟩) (Nat.le_refl _) _
  have hz1 : w1.heap.size = w.heap.size := by rw [hw1]; simp [World.setCell]
  have keep : ∀ {j : Nat} {o : Obj}, j ≠ x → w.heap[j]? = some o → w1.heap[j]? = some o := by
    intro j o hj h
    rw [hw1]
    exact (Below.heap_setCell w _ _ _ hj).trans h
  have oth : ∀ o, o ≠ 5 → w1.cell? ⟨x, o, none⟩ = w.cell? ⟨x, o, none⟩ := by
    intro o ho
    rw [hw1]
    exact World.cell?_setCell_other _ ⟨x, 5, none⟩ ⟨x, o, none⟩ _ (by intro e; injection e with e1 e2; exact ho e2.symm)
  have d1 : w1.cell? ⟨x, 1, none⟩ = some (.int .i32 0) := (oth 1 (by omega)).trans c1
  have d3 : w1.cell? ⟨x, 3, none⟩ = some (.int .u32 0) := (oth 3 (by omega)).trans c3
  have d5 : w1.cell? ⟨x, 5, none⟩ = some (.int .i32 1) := by rw [hw1]; exact World.cell?_setCell_same w ⟨x, 5, none⟩ _ c5
  have d7 : w1.cell? ⟨x, 7, none⟩ = some (.map (some B)) := (oth 7 (by omega)).trans c7
  have d8 : w1.cell? ⟨x, 8, none⟩ = some (.map (some xm)) := (oth 8 (by omega)).trans c8
  have df : w1.frozen? ⟨x, 5, none⟩ = false := by rw [hw1]; exact (World.frozen?_setCell _ _ _ _).trans (fz 5)
  have m1 := keep (ne_of hS.ix) hS.ix
  have m2 : w1.cell? ⟨xi, 1, none⟩ = some (.map (some (B + 1))) := by
    have := keep hxi hS.xs
    simp [World.cell?, this]
  have m3 := keep (ne_of hS.inv.mks) hS.inv.mks
  have hx1 : x < w1.heap.size := by omega
  obtain ⟨i0, hi, hz0, hz1', hz2⟩ := info_parts Ybaf.info33
  have Hw1 : Hid (w1 = w.setCell ⟨x, 5, none⟩ (.int .i32 1)) := hw1
  have hgv : (getL v ((vVals ps).map fun v => (v, sVal sb v))).getD (.map none) = .map none := by rw [getL_map, memB_of_not hv]; rfl
  have Hgv : Hid ((getL v ((vVals ps).map fun v => (v, sVal sb v))).getD (.map none) = .map none) := hgv
  have hln := fun (w : World) (ty : TypeId) => Maps.len_nil (P := Ybaf.prog) (w := w) Ybaf.underlying48 ty
  have hrn := fun (w : World) => run_range_nilMap (P := Ybaf.prog) w 48 9 49 Ybaf.underlying48
  have Hi3 : i0.bytes * 0 ≤ 281474976710656 := by omega
  clear hw1 hgv c3 c7 c8 keep oth ne_of hz1
  go_enter_defers Ybaf.func7, Ybaf.ntmps7
  go_wp2_with (first
    | (go_at_call 11; refine (rlock_at x _ _ _ c1 c4 c5 (fz _)).mono ?_; rintro e w' ⟨rfl, hw'⟩; rw [← Hw1.out] at hw'; have hw'' := hw'.symm; clear hw'; subst hw'')
    | (go_at_call 13; refine (filed_yes x xi xm (B + 1) v _ _ d8 m1 m2 m3 none Hgv.out).mono ?_; rintro e w' ⟨rfl, hw'⟩; have hw'' := hw'.symm; clear hw'; subst hw'')
    | (at_make; refine wpList_make_own _ rfl _ _ 26 rfl w1.heap.size 33 i0 .nilIface 1 Ybaf.underlying26 hi hz0 hz1' _ _ _ 0 rfl rfl rfl Hi3 (by unfold maxLen; omega) (Nat.le_refl _) ?_; intro w2 hown2 hg2))
  have hs2 : w1.heap.size ≤ w2.heap.size := hg2.size
  have hb2 : Below w1.heap.size w1 w2 := (Below.refl _ _).grown hg2 (Nat.le_refl _) (fun j e => by cases e)
  obtain ⟨r, hr⟩ : ∃ r, r = w2.heap.size := ⟨_, rfl⟩
  have hfresh : (w2.alloc (.mapIter none 0 #[] 0)).heap[r]? = some (.mapIter none 0 #[] 0) := by rw [hr]; exact heap_alloc_new _ _
  have hrle : w1.heap.size ≤ r := by omega
  rw [← hr]
  clear hr
  go_loopw [10] (fun vs wr => vs = .slice (some ⟨w1.heap.size, 0, none⟩) 0 0 ∧ wr.heap[r]? = some (.mapIter none 0 #[] 0) ∧ wr.ownsRow w1.heap.size 33 1 (.slice (some ⟨w1.heap.size, 0, none⟩) 0 0) 0 [] ∧ Below w1.heap.size w1 wr)
    (fun _ wr => 0)
  case atStart => exact ⟨rfl, hfresh, hown2.alloc _, hb2.alloc (by omega) _⟩
  case round =>
    obtain ⟨rfl, hit, hown, hbl⟩ := hrel
    have hnx := fun ty => next_nil (P := Ybaf.prog) hit ty
    go_wp2_with fail
    refine leaves_cons (f := 12) (args := #[.pointer (some ⟨x, 1, none⟩)]) (by simp) (by simp [go_sem]) ?_
    refine (runlock_at x (.int .i32 0) (.int .u32 0) .returning _ ?_ ?_ ?_ ?_).mono ?_
    · exact (hbl.cell (p := ⟨x, 1, none⟩) hx1).trans d1
    · exact (hbl.cell (p := ⟨x, 3, none⟩) hx1).trans d3
    · exact (hbl.cell (p := ⟨x, 5, none⟩) hx1).trans d5
    · exact (hbl.frozen (p := ⟨x, 5, none⟩) hx1).trans df
    rintro e u' w'' ⟨rfl, rfl, rfl⟩
    exact ⟨_, results_tmp2 rfl _ _ _, _, 0, rfl, ownsRow_setCell_below (ownsRow_mono hown (Nat.succ_le_of_lt hx1)) (a := ⟨x, 5, none⟩) (Nat.lt_succ_self _) (.int .i32 0),
      (hb0.trans (hbl.mono (Nat.le_of_lt hx1))).setCell (p := ⟨x, 5, none⟩) (Nat.le_refl _) _⟩
end Go.Proofs.YbulkaqzgFmt

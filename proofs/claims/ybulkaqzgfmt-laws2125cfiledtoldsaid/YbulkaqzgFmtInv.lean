/-
  THE STORE THAT 'zzs2125cbuild' FILLS: WHAT ITS BLOCKS HOLD, AND WHAT EACH STEP OF THE ROUND DOES TO THEM. No walk here.
-/
import Derived.Test.YbulkaqzgFmtMaps
import Derived.Test.YbulkaqzgFmtSmall
namespace Go.Proofs.YbulkaqzgFmt
open Go.RowKit Go.StrMap

/-! ### lists of keys -/
def memB (k : ByteArray) (l : List ByteArray) : Bool := l.any fun x => decide (x = k)
theorem memB_iff {k : ByteArray} {l : List ByteArray} : memB k l = true ↔ k ∈ l := by
  simp [memB]
theorem memB_of {k : ByteArray} {l : List ByteArray} (h : k ∈ l) : memB k l = true := memB_iff.2 h
theorem memB_of_not {k : ByteArray} {l : List ByteArray} (h : ¬ k ∈ l) : memB k l = false := by
  cases e : memB k l
  · rfl
  · exact absurd (memB_iff.1 e) h
def addKey (l : List ByteArray) (k : ByteArray) : List ByteArray := if memB k l = true then l else l ++ [k]

theorem addKey_old {l : List ByteArray} {k : ByteArray} (h : k ∈ l) : addKey l k = l := by simp [addKey, memB_of h]
theorem addKey_new {l : List ByteArray} {k : ByteArray} (h : ¬ k ∈ l) : addKey l k = l ++ [k] := by simp [addKey, memB_of_not h]

theorem mem_addKey {l : List ByteArray} {k x : ByteArray} : x ∈ addKey l k ↔ x ∈ l ∨ x = k := by
  by_cases h : k ∈ l
  · rw [addKey_old h]
    constructor
    · exact .inl
    · rintro (h | rfl) <;> assumption
  · rw [addKey_new h]; simp

theorem addKey_nodup {l : List ByteArray} {k : ByteArray} (h : l.Nodup) : (addKey l k).Nodup := by
  by_cases hk : k ∈ l
  · rw [addKey_old hk]; exact h
  · rw [addKey_new hk, List.nodup_append]
    exact ⟨h, by simp, fun a ha b hb => by simp at hb; subst hb; intro e; subst e; exact hk ha⟩

def upd {α : Type} (f : ByteArray → α) (k : ByteArray) (u : α) (x : ByteArray) : α := if x = k then u else f x

theorem upd_same {α : Type} (f : ByteArray → α) (k : ByteArray) (u : α) : upd f k u k = u := by simp [upd]
theorem upd_other {α : Type} (f : ByteArray → α) {k x : ByteArray} (u : α) (h : x ≠ k) : upd f k u x = f x := by simp [upd, h]

theorem getL_map (f : ByteArray → Value) (k : ByteArray) : ∀ l : List ByteArray, getL k (l.map fun x => (x, f x)) = if memB k l = true then some (f k) else none
  | [] => by simp [getL, memB]
  | x :: l => by
    by_cases h : x = k
    · subst h; simp [getL, memB]
    · have e : memB k (x :: l) = memB k l := by
        have h' : ¬ k = x := fun e => h e.symm
        rw [Bool.eq_iff_iff, memB_iff, memB_iff]; simp [h']
      rw [e, ← getL_map f k l]
      simp [getL, h]

theorem putL_map_old (f : ByteArray → Value) (k : ByteArray) (u : Value) : ∀ {l : List ByteArray}, l.Nodup → k ∈ l →
    putL k u (l.map fun x => (x, f x)) = l.map fun x => (x, upd f k u x)
  | [], _, h => by simp at h
  | x :: l, hn, hk => by
    rw [List.nodup_cons] at hn
    by_cases h : x = k
    · subst h
      simp only [List.map_cons, putL, if_true, upd_same, List.cons.injEq, true_and]
      refine List.map_congr_left fun y hy => ?_
      rw [upd_other]
      intro e
      subst e
      exact hn.1 hy
    · have hk' : k ∈ l := by
        rcases List.mem_cons.1 hk with e | e
        · exact absurd e.symm h
        · exact e
      simp only [List.map_cons, putL, h, if_false, putL_map_old f k u hn.2 hk']
      rw [upd_other f u h]

theorem putL_map (f : ByteArray → Value) (k : ByteArray) (u : Value) {l : List ByteArray} (hn : l.Nodup) :
    putL k u (l.map fun x => (x, f x)) = (addKey l k).map fun x => (x, upd f k u x) := by
  by_cases h : k ∈ l
  · rw [addKey_old h, putL_map_old f k u hn h]
  · rw [addKey_new h, putL_new (by rw [getL_map, memB_of_not h]; rfl)]
    simp only [List.map_append, List.map_cons, List.map_nil, upd_same]
    congr 1
    refine List.map_congr_left fun y hy => ?_
    rw [upd_other]
    intro e
    subst e
    exact h hy

/-! ### what the pairs come to -/
def oKeys (ps : List (Nat × Nat)) : List ByteArray := ps.foldl (fun l p => addKey l (keyS p.1)) []
def vVals (ps : List (Nat × Nat)) : List ByteArray := ps.foldl (fun l p => addKey l (valS p.2)) []
def sKeys (ps : List (Nat × Nat)) (v : ByteArray) : List ByteArray := ps.foldl (fun l p => if valS p.2 = v then addKey l (keyS p.1) else l) []

theorem oKeys_snoc (ps : List (Nat × Nat)) (p : Nat × Nat) : oKeys (ps ++ [p]) = addKey (oKeys ps) (keyS p.1) := by simp [oKeys]
theorem vVals_snoc (ps : List (Nat × Nat)) (p : Nat × Nat) : vVals (ps ++ [p]) = addKey (vVals ps) (valS p.2) := by simp [vVals]
theorem sKeys_snoc (ps : List (Nat × Nat)) (p : Nat × Nat) (v : ByteArray) : sKeys (ps ++ [p]) v = if valS p.2 = v then addKey (sKeys ps v) (keyS p.1) else sKeys ps v := by simp [sKeys]
theorem sKeys_snoc_same (ps : List (Nat × Nat)) (p : Nat × Nat) : sKeys (ps ++ [p]) (valS p.2) = addKey (sKeys ps (valS p.2)) (keyS p.1) := by simp [sKeys]

theorem nodup_snoc {α : Type} {C : List α → Prop} (h0 : C []) (hs : ∀ l a, C l → C (l ++ [a])) (l : List α) : C l := by
  have : ∀ n (l : List α), l.length = n → C l := by
    intro n
    induction n with
    | zero => intro l hl; rw [List.eq_nil_of_length_eq_zero hl]; exact h0
    | succ n ih =>
      intro l hl
      have hne : l ≠ [] := by intro e; simp [e] at hl
      rw [← List.dropLast_concat_getLast hne]
      exact hs _ _ (ih _ (by simp [hl]))
  exact this _ l rfl

theorem oKeys_nodup (ps : List (Nat × Nat)) : (oKeys ps).Nodup :=
  nodup_snoc (C := fun ps => (oKeys ps).Nodup) (by simp [oKeys]) (fun l a h => by rw [oKeys_snoc]; exact addKey_nodup h) ps
theorem vVals_nodup (ps : List (Nat × Nat)) : (vVals ps).Nodup :=
  nodup_snoc (C := fun ps => (vVals ps).Nodup) (by simp [vVals]) (fun l a h => by rw [vVals_snoc]; exact addKey_nodup h) ps
theorem sKeys_nodup (ps : List (Nat × Nat)) (v : ByteArray) : (sKeys ps v).Nodup :=
  nodup_snoc (C := fun ps => (sKeys ps v).Nodup) (by simp [sKeys]) (fun l a h => by rw [sKeys_snoc]; split; exact addKey_nodup h; exact h) ps

/-! ### the blocks -/
abbrev oVal (ob : ByteArray → Nat) (k : ByteArray) : Value := .iface 34 (.pointer (some ⟨ob k, 0, none⟩))
abbrev sVal (sb : ByteArray → Nat) (v : ByteArray) : Value := .map (some (sb v))

/-- The three maps lie in the blocks B, B + 1, B + 2; all else that they lead to from B + 3 on. -/
structure Inv (B N : Nat) (w : World) (lo : List ByteArray) (ob : ByteArray → Nat) (lk : List ByteArray) (sb : ByteArray → Nat) (S : ByteArray → List ByteArray)
    (lv : List ByteArray) (vv : ByteArray → Value) : Prop where
  room : B + 3 ≤ w.heap.size
  mo : w.heap[B]? = some (mapObj (lo.map fun k => (k, oVal ob k)))
  mks : w.heap[B + 1]? = some (mapObj (lk.map fun v => (v, sVal sb v)))
  mv : w.heap[B + 2]? = some (mapObj (lv.map fun k => (k, vv k)))
  objs : ∀ k ∈ lo, B + 3 ≤ ob k ∧ w.heap[ob k]? = some (.cells #[.string k] 37 (0, 0))
  sets : ∀ v ∈ lk, B + 3 ≤ sb v ∧ w.heap[sb v]? = some (mapObj ((S v).map fun k => (k, .agg #[])))
  setsInj : ∀ v ∈ lk, ∀ v' ∈ lk, sb v = sb v' → v = v'
  rows : ∀ k ∈ lv, ∃ n xs, n ≤ N ∧ w.ownsRow (B + 3) 9 1 (vv k) n xs ∧ (vv k).ownBlock ≠ none
  rowsInj : ∀ k ∈ lv, ∀ k' ∈ lv, (vv k).ownBlock = (vv k').ownBlock → k = k'
  onodup : lo.Nodup
  knodup : lk.Nodup
  vnodup : lv.Nodup

section
variable {B N : Nat} {w w' : World} {lo : List ByteArray} {ob : ByteArray → Nat} {lk : List ByteArray} {sb : ByteArray → Nat} {S : ByteArray → List ByteArray} {lv : List ByteArray} {vv : ByteArray → Value}

theorem lt_of_some {w : World} {i : Nat} {o : Obj} (h : w.heap[i]? = some o) : i < w.heap.size := (Array.getElem?_eq_some_iff.1 h).1

theorem kept_at {w w' : World} {row : Option Nat} {i : Nat} {o : Obj} (hg : w.grownBy w' row) (h : w.heap[i]? = some o) (hne : some i ≠ row) : w'.heap[i]? = some o :=
  (hg.block i (lt_of_some h) hne).trans h

/-- New blocks turn nothing. -/
theorem Inv.kept (h : Inv B N w lo ob lk sb S lv vv) (hg : w.grownBy w' none) : Inv B N w' lo ob lk sb S lv vv :=
  ⟨Nat.le_trans h.room hg.size, kept_at hg h.mo (by simp), kept_at hg h.mks (by simp), kept_at hg h.mv (by simp),
    fun k hk => ⟨(h.objs k hk).1, kept_at hg (h.objs k hk).2 (by simp)⟩, fun v hv => ⟨(h.sets v hv).1, kept_at hg (h.sets v hv).2 (by simp)⟩, h.setsInj,
    fun k hk => by
      obtain ⟨n, xs, h1, h2, h3⟩ := h.rows k hk
      exact ⟨n, xs, h1, h2.kept hg (.inr h3), h3⟩,
    h.rowsInj, h.onodup, h.knodup, h.vnodup⟩

theorem Inv.alloc (h : Inv B N w lo ob lk sb S lv vv) (o : Obj) : Inv B N (w.alloc o) lo ob lk sb S lv vv := h.kept (World.grownBy_alloc w o none)

theorem Inv.mono (h : Inv B N w lo ob lk sb S lv vv) {N' : Nat} (hn : N ≤ N') : Inv B N' w lo ob lk sb S lv vv :=
  ⟨h.room, h.mo, h.mks, h.mv, h.objs, h.sets, h.setsInj, fun k hk => by
    obtain ⟨n, xs, h1, h2⟩ := h.rows k hk
    exact ⟨n, xs, Nat.le_trans h1 hn, h2⟩, h.rowsInj, h.onodup, h.knodup, h.vnodup⟩

/-- 'objects[k] = &zzs2125cobj{name: k}' -/
theorem Inv.putObj (h : Inv B N w lo ob lk sb S lv vv) {k : ByteArray} {x : Nat} (hk : ¬ k ∈ lo) (hx : B + 3 ≤ x) (hxc : w.heap[x]? = some (.cells #[.string k] 37 (0, 0)))
    (hm : w'.heap[B]? = some (mapObj (putL k (.iface 34 (.pointer (some ⟨x, 0, none⟩))) (lo.map fun k => (k, oVal ob k))))) (hg : w.grownBy w' (some B)) :
    Inv B N w' (addKey lo k) (upd ob k x) lk sb S lv vv := by
  have e : putL k (.iface 34 (.pointer (some ⟨x, 0, none⟩))) (lo.map fun k => (k, oVal ob k)) = (addKey lo k).map fun y => (y, oVal (upd ob k x) y) := by
    rw [putL_map (oVal ob) k _ h.onodup]
    refine List.map_congr_left fun y hy => ?_
    by_cases ey : y = k
    · subst ey; simp [upd, oVal]
    · simp [upd, oVal, ey]
  rw [e] at hm
  refine ⟨Nat.le_trans h.room hg.size, hm, kept_at hg h.mks (by simp), kept_at hg h.mv (by simp), ?_, ?_, h.setsInj, ?_, h.rowsInj, addKey_nodup h.onodup, h.knodup, h.vnodup⟩
  · intro y hy
    rcases mem_addKey.1 hy with hy | rfl
    · have hne : y ≠ k := fun e => hk (e ▸ hy)
      rw [upd_other ob x hne]
      have := h.objs y hy
      exact ⟨this.1, kept_at hg this.2 (by simp; omega)⟩
    · rw [upd_same]
      exact ⟨hx, kept_at hg hxc (by simp; omega)⟩
  · intro v hv
    have := h.sets v hv
    exact ⟨this.1, kept_at hg this.2 (by simp; omega)⟩
  · intro y hy
    obtain ⟨n, xs, h1, h2, h3⟩ := h.rows y hy
    refine ⟨n, xs, h1, h2.kept hg (.inr ?_), h3⟩
    intro e
    have := (h2.lt B e).1
    omega

/-- 'set = map[string]struct{}{}; keys[v] = set' -/
theorem Inv.putSet (h : Inv B N w lo ob lk sb S lv vv) {v : ByteArray} {x : Nat} (hv : ¬ v ∈ lk) (hx : B + 3 ≤ x) (hxc : w.heap[x]? = some (mapObj [])) (hfresh : ∀ u ∈ lk, sb u ≠ x)
    (hm : w'.heap[B + 1]? = some (mapObj (putL v (.map (some x)) (lk.map fun v => (v, sVal sb v))))) (hg : w.grownBy w' (some (B + 1))) :
    Inv B N w' lo ob (addKey lk v) (upd sb v x) (upd S v []) lv vv := by
  have e : putL v (.map (some x)) (lk.map fun v => (v, sVal sb v)) = (addKey lk v).map fun y => (y, sVal (upd sb v x) y) := by
    rw [putL_map (sVal sb) v _ h.knodup]
    refine List.map_congr_left fun y hy => ?_
    by_cases ey : y = v
    · subst ey; simp [upd, sVal]
    · simp [upd, sVal, ey]
  rw [e] at hm
  refine ⟨Nat.le_trans h.room hg.size, kept_at hg h.mo (by simp), hm, kept_at hg h.mv (by simp), ?_, ?_, ?_, ?_, h.rowsInj, h.onodup, addKey_nodup h.knodup, h.vnodup⟩
  · intro y hy
    have := h.objs y hy
    exact ⟨this.1, kept_at hg this.2 (by simp; omega)⟩
  · intro u hu
    rcases mem_addKey.1 hu with hu | rfl
    · have hne : u ≠ v := fun e => hv (e ▸ hu)
      rw [upd_other sb x hne, upd_other S [] hne]
      have := h.sets u hu
      exact ⟨this.1, kept_at hg this.2 (by simp; omega)⟩
    · rw [upd_same, upd_same]
      exact ⟨hx, kept_at hg hxc (by simp; omega)⟩
  · intro u hu u' hu' he
    have ne : ∀ {y : ByteArray}, y ∈ lk → y ≠ v := fun hy e => hv (e ▸ hy)
    rcases mem_addKey.1 hu with hu | eu <;> rcases mem_addKey.1 hu' with hu' | eu'
    · rw [upd_other sb x (ne hu), upd_other sb x (ne hu')] at he
      exact h.setsInj u hu u' hu' he
    · rw [upd_other sb x (ne hu), eu', upd_same] at he
      exact absurd he (hfresh u hu)
    · rw [upd_other sb x (ne hu'), eu, upd_same] at he
      exact absurd he.symm (hfresh u' hu')
    · rw [eu, eu']
  · intro y hy
    obtain ⟨n, xs, h1, h2, h3⟩ := h.rows y hy
    refine ⟨n, xs, h1, h2.kept hg (.inr ?_), h3⟩
    intro e
    have := (h2.lt (B + 1) e).1
    omega

/-- 'set[k] = struct{}{}' -/
theorem Inv.putKey (h : Inv B N w lo ob lk sb S lv vv) {v k : ByteArray} (hv : v ∈ lk) (hn : (S v).Nodup)
    (hm : w'.heap[sb v]? = some (mapObj (putL k (.agg #[]) ((S v).map fun k => (k, .agg #[]))))) (hg : w.grownBy w' (some (sb v))) :
    Inv B N w' lo ob lk sb (upd S v (addKey (S v) k)) lv vv := by
  have hs := h.sets v hv
  have e : putL k (.agg #[]) ((S v).map fun k => (k, Value.agg #[])) = (addKey (S v) k).map fun y => (y, .agg #[]) := by
    rw [putL_map (fun _ => Value.agg #[]) k _ hn]
    refine List.map_congr_left fun y hy => ?_
    simp [upd]
  rw [e] at hm
  refine ⟨Nat.le_trans h.room hg.size, kept_at hg h.mo (by simp; omega), kept_at hg h.mks (by simp; omega), kept_at hg h.mv (by simp; omega), ?_, ?_, h.setsInj, ?_, h.rowsInj, h.onodup, h.knodup, h.vnodup⟩
  · intro y hy
    have := h.objs y hy
    refine ⟨this.1, kept_at hg this.2 ?_⟩
    intro e
    simp only [Option.some.injEq] at e
    rw [e, hs.2] at this
    simp [mapObj] at this
  · intro u hu
    by_cases hne : u = v
    · subst hne
      rw [upd_same]
      exact ⟨hs.1, hm⟩
    · rw [upd_other S _ hne]
      have := h.sets u hu
      refine ⟨this.1, kept_at hg this.2 ?_⟩
      intro e
      simp only [Option.some.injEq] at e
      exact hne (h.setsInj u hu v hv e)
  · intro y hy
    obtain ⟨n, xs, h1, h2, h3⟩ := h.rows y hy
    refine ⟨n, xs, h1, h2.kept hg (.inr ?_), h3⟩
    intro e
    rcases h2.2 with ⟨h4, _⟩ | ⟨g, cap, cur, h4, _, h5, _⟩
    · rw [h4] at h3; simp [Value.ownBlock] at h3
    · rw [h4] at e
      simp only [Value.ownBlock, Option.some.injEq] at e
      subst e
      rw [hs.2] at h5
      simp [mapObj] at h5

/-- What stands at k among the values, or nil. -/
theorem Inv.rowAt (h : Inv B N w lo ob lk sb S lv vv) (k : ByteArray) : ∃ n xs, n ≤ N ∧ w.ownsRow (B + 3) 9 1 (((getL k (lv.map fun k => (k, vv k))).getD (.slice none 0 0))) n xs := by
  rw [getL_map]
  by_cases hk : k ∈ lv
  · obtain ⟨n, xs, h1, h2, _⟩ := h.rows k hk
    exact ⟨n, xs, h1, by simpa [memB_of hk] using h2⟩
  · exact ⟨0, [], Nat.zero_le _, by simpa [memB_of_not hk] using World.ownsRow_nil w (B + 3) 9 1⟩

/-- 'values[k] = append(values[k], v)': w: where the append begins; w1: behind it; w': behind the store. -/
theorem Inv.putRow (h : Inv B N w lo ob lk sb S lv vv) {k : ByteArray} {v0 v' : Value} {w1 : World} {n : Nat} {xs : List Value} (hv0 : v0 = (getL k (lv.map fun k => (k, vv k))).getD (.slice none 0 0))
    (hg1 : w.grownBy w1 v0.ownBlock) (hown : w1.ownsRow (B + 3) 9 1 v' n xs) (hn : n ≤ N + 1) (hloc : v'.ownBlock = v0.ownBlock ∨ v'.ownBlock = some w.heap.size) (hnn : v'.ownBlock ≠ none)
    (hrow : ∀ j, v0.ownBlock = some j → ∃ cur, w.heap[j]? = some (.cells cur 9 (0, 0)))
    (hm : w'.heap[B + 2]? = some (mapObj (putL k v' (lv.map fun k => (k, vv k))))) (hg : w1.grownBy w' (some (B + 2))) :
    Inv B (N + 1) w' lo ob lk sb S (addKey lv k) (upd vv k v') := by
  rw [putL_map vv k v' h.vnodup] at hm
  have hlow : ∀ j, v0.ownBlock = some j → B + 3 ≤ j := by
    intro j hj
    obtain ⟨n0, xs0, _, h2⟩ := h.rowAt k
    rw [← hv0] at h2
    exact (h2.lt j hj).1
  have two : ∀ {i : Nat} {o : Obj}, w.heap[i]? = some o → i ≠ B + 2 → (∀ cur, o ≠ .cells cur 9 (0, 0)) → w'.heap[i]? = some o := by
    intro i o hi h2 h3
    refine kept_at hg (kept_at hg1 hi ?_) (by simp; exact h2)
    intro e
    obtain ⟨cur, hc⟩ := hrow i e.symm
    rw [hi] at hc
    exact h3 cur (Option.some.inj hc)
  have notmap : ∀ (l : List (ByteArray × Value)) cur, mapObj l ≠ .cells cur 9 (0, 0) := by intro l cur; simp [mapObj]
  refine ⟨Nat.le_trans h.room (Nat.le_trans hg1.size hg.size), two h.mo (by omega) (notmap _), two h.mks (by omega) (notmap _), hm, ?_, ?_, h.setsInj, ?_, ?_, h.onodup, h.knodup, addKey_nodup h.vnodup⟩
  · intro y hy
    have := h.objs y hy
    exact ⟨this.1, two this.2 (by omega) (by simp)⟩
  · intro u hu
    have := h.sets u hu
    exact ⟨this.1, two this.2 (by omega) (notmap _)⟩
  · intro y hy
    have hself : ∃ n xs, n ≤ N + 1 ∧ w'.ownsRow (B + 3) 9 1 v' n xs ∧ v'.ownBlock ≠ none :=
      ⟨n, xs, hn, hown.kept hg (.inr (fun e => by have := (hown.lt (B + 2) e).1; omega)), hnn⟩
    by_cases hy' : y = k
    · subst hy'
      rw [upd_same]
      exact hself
    · have hyl : y ∈ lv := by
        rcases mem_addKey.1 hy with hy | e
        · exact hy
        · exact absurd e hy'
      rw [upd_other vv v' hy']
      obtain ⟨m, ys, h1, h2, h3⟩ := h.rows y hyl
      refine ⟨m, ys, by omega, (h2.kept hg1 (.inr ?_)).kept hg (.inr ?_), h3⟩
      · intro e
        rw [hv0, getL_map] at e
        by_cases hk : k ∈ lv
        · simp only [memB_of hk, if_true, Option.getD_some] at e
          exact hy' (h.rowsInj y hyl k hk e)
        · simp only [memB_of_not hk, Bool.false_eq_true, if_false, Option.getD_none] at e
          exact h3 (by rw [e]; rfl)
      · intro e
        have := (h2.lt (B + 2) e).1
        omega
  · -- no two in one row
    have far : ∀ y ∈ lv, y ≠ k → (vv y).ownBlock ≠ v'.ownBlock := by
      intro y hy hyk e
      obtain ⟨m, ys, _, h2, h3⟩ := h.rows y hy
      rcases hloc with hl | hl
      · rw [hl, hv0, getL_map] at e
        by_cases hk : k ∈ lv
        · simp only [memB_of hk, if_true, Option.getD_some] at e
          exact hyk (h.rowsInj y hy k hk e)
        · simp only [memB_of_not hk, Bool.false_eq_true, if_false, Option.getD_none] at e
          exact h3 (by rw [e]; rfl)
      · rw [hl] at e
        have := (h2.lt _ e).2
        omega
    intro y hy y' hy' e
    by_cases e1 : y = k
    · by_cases e2 : y' = k
      · rw [e1, e2]
      · exfalso
        rw [e1, upd_same, upd_other vv v' e2] at e
        refine far y' ?_ e2 e.symm
        rcases mem_addKey.1 hy' with h' | h'
        · exact h'
        · exact absurd h' e2
    · have hyl : y ∈ lv := by
        rcases mem_addKey.1 hy with h' | h'
        · exact h'
        · exact absurd h' e1
      by_cases e2 : y' = k
      · exfalso
        rw [e2, upd_same, upd_other vv v' e1] at e
        exact far y hyl e1 e
      · have hyl' : y' ∈ lv := by
          rcases mem_addKey.1 hy' with h' | h'
          · exact h'
          · exact absurd h' e2
        rw [upd_other vv v' e1, upd_other vv v' e2] at e
        exact h.rowsInj y hyl y' hyl' e

/-- Only what S says of the sets that are there counts. -/
theorem Inv.sets_as (h : Inv B N w lo ob lk sb S lv vv) {S' : ByteArray → List ByteArray} (e : ∀ v ∈ lk, S v = S' v) : Inv B N w lo ob lk sb S' lv vv :=
  ⟨h.room, h.mo, h.mks, h.mv, h.objs, fun v hv => by rw [← e v hv]; exact h.sets v hv, h.setsInj, h.rows, h.rowsInj, h.onodup, h.knodup, h.vnodup⟩

theorem sKeys_none {ps : List (Nat × Nat)} {v : ByteArray} : ¬ v ∈ vVals ps → sKeys ps v = [] :=
  nodup_snoc (C := fun ps => ¬ v ∈ vVals ps → sKeys ps v = []) (by simp [sKeys]) (fun l p ih h => by
    rw [vVals_snoc, mem_addKey] at h
    have h1 : ¬ v ∈ vVals l := fun e => h (.inl e)
    have h2 : ¬ valS p.2 = v := fun e => h (.inr e.symm)
    rw [sKeys_snoc, if_neg h2]
    exact ih h1) ps

theorem Inv.next {pre : List (Nat × Nat)} {p : Nat × Nat} (h : Inv B N w (addKey (oKeys pre) (keyS p.1)) ob (addKey (vVals pre) (valS p.2)) sb S (addKey (oKeys pre) (keyS p.1)) vv)
    (hS : ∀ v, S v = if v = valS p.2 then addKey (sKeys pre v) (keyS p.1) else sKeys pre v) :
    Inv B N w (oKeys (pre ++ [p])) ob (vVals (pre ++ [p])) sb (sKeys (pre ++ [p])) (oKeys (pre ++ [p])) vv := by
  rw [oKeys_snoc, vVals_snoc]
  refine h.sets_as fun v _ => ?_
  rw [hS, sKeys_snoc]
  by_cases e : v = valS p.2
  · rw [if_pos e, if_pos e.symm]
  · rw [if_neg e, if_neg (fun h => e h.symm)]

theorem Inv.start (w : World) : Inv w.heap.size 0 (((w.alloc (.map #[] 0)).alloc (.map #[] 0)).alloc (.map #[] 0)) (oKeys []) (fun _ => 0) (vVals []) (fun _ => 0) (sKeys []) (oKeys []) (fun _ => .slice none 0 0) := by
  have e0 : mapObj [] = Obj.map #[] 0 := rfl
  refine ⟨by simp, ?_, ?_, ?_, by simp [oKeys], by simp [vVals], by simp [vVals], by simp [oKeys], by simp [oKeys], by simp [oKeys], by simp [vVals], by simp [oKeys]⟩
  · show (((w.heap.push _).push _).push _)[w.heap.size]? = some (mapObj [])
    simp only [Array.getElem?_push, Array.size_push]
    rw [if_neg (by omega), if_neg (by omega), if_pos trivial, e0]
  · show (((w.heap.push _).push _).push _)[w.heap.size + 1]? = some (mapObj [])
    simp only [Array.getElem?_push, Array.size_push]
    rw [if_neg (by omega), if_pos trivial, e0]
  · show (((w.heap.push _).push _).push _)[w.heap.size + 2]? = some (mapObj [])
    simp only [Array.getElem?_push, Array.size_push]
    rw [if_pos trivial, e0]
end
end Go.Proofs.YbulkaqzgFmt

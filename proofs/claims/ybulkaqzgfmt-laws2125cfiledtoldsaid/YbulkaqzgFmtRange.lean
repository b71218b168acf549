/-
  MAPS KEYED BY STRINGS, RANGED OVER: the iterator's block; len.
-/
import Derived.Test.YbulkaqzgFmtMaps
import Derived.Maps.RangeWalk
import Derived.Maps.OwnSet
namespace Go.StrMap
open Go.MapKept Go.ChangeMaps

def iterObj (m n : Nat) (done : List Nat) : Obj := .mapIter (some m) n done.toArray n

theorem mem_entries : ∀ {l : List (ByteArray × Value)} {i : Nat} {e : MapEntry}, e ∈ entriesFrom i l → ∃ j p, l[j]? = some p ∧ e = { key := .string p.1, val := p.2, born := i + j }
  | [], _, _, h => by simp [entriesFrom] at h
  | p :: l, i, e, h => by
    simp only [entriesFrom, List.mem_cons] at h
    rcases h with rfl | h
    · exact ⟨0, p, rfl, rfl⟩
    · obtain ⟨j, q, h1, h2⟩ := mem_entries h
      exact ⟨j + 1, q, by simpa using h1, by rw [h2]; congr 1; omega⟩

theorem entries_mem {l : List (ByteArray × Value)} : ∀ {i j : Nat} {p : ByteArray × Value}, l[j]? = some p → ({ key := .string p.1, val := p.2, born := i + j } : MapEntry) ∈ entriesFrom i l := by
  induction l with
  | nil => intro i j p h; simp at h
  | cons q l ih =>
    intro i j p h
    cases j with
    | zero =>
      simp at h
      subst h
      simp [entriesFrom]
    | succ j =>
      simp at h
      have := ih (i := i + 1) h
      simp only [entriesFrom, List.mem_cons]
      right
      rwa [show i + 1 + j = i + (j + 1) from by omega] at this

theorem born_nodup : ∀ (l : List (ByteArray × Value)) (i : Nat), ((entriesFrom i l).map (·.born)).Nodup ∧ ∀ b ∈ (entriesFrom i l).map (·.born), i ≤ b
  | [], i => by simp [entriesFrom]
  | p :: l, i => by
    obtain ⟨h1, h2⟩ := born_nodup l (i + 1)
    simp only [entriesFrom, List.map_cons, List.nodup_cons, List.mem_cons]
    refine ⟨⟨fun h => ?_, h1⟩, ?_⟩
    · have := h2 i h
      omega
    · rintro b (rfl | hb)
      · exact Nat.le_refl _
      · have := h2 b hb
        omega

theorem lt_of_get {α : Type} {l : List α} {i : Nat} {a : α} (h : l[i]? = some a) : i < l.length := (List.getElem?_eq_some_iff.1 h).1

section
variable {P : Program} {w : World} {r m : Nat} {l : List (ByteArray × Value)} {done : List Nat}

theorem run_next (hr : w.heap[r]? = some (iterObj m l.length done)) (hb : w.heap[m]? = some (mapObj l)) (ty : TypeId) :
    ((∀ i, i < l.length → i ∈ done) ∧ (Instr.next (.pointer (some ⟨r, 0, none⟩)) false ty).run P w = .ok (.tuple #[.bool false]) w) ∨
    ∃ i p w', l[i]? = some p ∧ i ∉ done ∧ (Instr.next (.pointer (some ⟨r, 0, none⟩)) false ty).run P w = .ok (.tuple #[.bool true, .string p.1, p.2]) w' ∧
      w'.heap[r]? = some (iterObj m l.length (done ++ [i])) ∧ w'.heap[m]? = some (mapObj l) ∧ w.grownBy w' (some r) ∧ w'.heap.size = w.heap.size ∧
      (Instr.entry (.pointer (some ⟨r, 0, none⟩))).run P w' = .ok (.tuple #[.string p.1, p.2]) w' := by
  have hne : m ≠ r := by
    intro e
    rw [e, hr] at hb
    simp [iterObj, mapObj] at hb
  have hold : ∀ x ∈ (entriesFrom 0 l).toArray.toList, x.born < l.length := by
    intro x hx
    obtain ⟨j, p, h1, rfl⟩ := mem_entries (by simpa using hx)
    have := lt_of_get h1
    simp
    omega
  rcases run_next_at (P := P) w ty r m l.length l.length done.toArray (entriesFrom 0 l).toArray l.length hr hb hold (Nat.le_refl _) with ⟨h0, hrun⟩ | ⟨e, he, w1, hw1, hrun⟩
  · left
    refine ⟨fun i hi => ?_, hrun⟩
    have h1 : leftOf (entriesFrom 0 l).toArray done.toArray = #[] := Array.eq_empty_of_size_eq_zero h0
    unfold leftOf at h1
    rw [Array.filter_eq_empty_iff] at h1
    have h2 := h1 { key := .string l[i].1, val := l[i].2, born := 0 + i } (by simpa using entries_mem (i := 0) (List.getElem?_eq_getElem hi))
    simpa using h2
  · right
    unfold leftOf at he
    simp at he
    obtain ⟨he1, he2⟩ := he
    obtain ⟨i, p, h1, rfl⟩ := mem_entries he1
    simp only [Nat.zero_add] at hrun he2
    have hw1r : w1.heap[r]? = some (iterObj m l.length done) := by rcases hw1 with rfl | rfl <;> exact hr
    have hw1m : w1.heap[m]? = some (mapObj l) := by rcases hw1 with rfl | rfl <;> exact hb
    have hsame : w1.heap = w.heap := by rcases hw1 with rfl | rfl <;> rfl
    have hset := heap_set (o' := iterObj m l.length (done ++ [i])) hw1r
    have ho : (Obj.mapIter (some m) l.length (done.toArray.push i) l.length) = iterObj m l.length (done ++ [i]) := by simp [iterObj]
    rw [ho] at hrun
    refine ⟨i, p, _, h1, by simpa using he2, hrun, hset.1, ?_, ⟨?_, ?_, ?_, ?_, ?_⟩, ?_, ?_⟩
    · exact (hset.2 m hne).trans hw1m
    · rcases hw1 with rfl | rfl <;> rfl
    · rcases hw1 with rfl | rfl <;> rfl
    · rcases hw1 with rfl | rfl <;> rfl
    · simp [setBlock, hsame]
    · intro k hk hkr
      have hkr' : k ≠ r := fun e => hkr (by rw [e])
      exact (hset.2 k hkr').trans (by rw [hsame])
    · simp [setBlock, hsame]
    · refine run_entry_at (P := P) _ r m l.length done.toArray (entriesFrom 0 l).toArray l.length { key := .string p.1, val := p.2, born := i } ?_ ?_ ?_ ?_
      · exact hset.1.trans (congrArg some ho.symm)
      · exact (hset.2 m hne).trans hw1m
      · simpa using entries_mem (i := 0) h1
      · simpa using (born_nodup l 0).1

theorem run_range {t kt et : TypeId} (ht : P.underlying t = some (.map kt et)) (hb : w.heap[m]? = some (mapObj l)) :
    (Instr.range t (.map (some m))).run P w = .ok (.pointer (some ⟨w.heap.size, 0, none⟩)) (w.alloc (iterObj m l.length [])) := by
  simp [Instr.range, run_underlying ht, MapKept.run_getObj_map hb, iterObj]

theorem run_len {t kt et : TypeId} (ht : P.underlying t = some (.map kt et)) (hb : w.heap[m]? = some (mapObj l)) (ty : TypeId) :
    (Builtin.len_ #[t] ty #[.map (some m)]).run P w = .ok (.int .i64 l.length) w := by
  simp [Builtin.len_, run_underlying ht, MapKept.run_getObj_map hb, goInt, Result.andThen, length_entries]
end

/-! ### at the operation -/
section
variable {P : Program} (w : World) {ops : Array Oper} {rest : List Oper} {o : Oper} {a : Act} {Q : Exit → Act → World → Prop}

theorem wpList_range (hg : o.guard = none) (mo : Operand) (t : TypeId) (hop : o.op = Op.range t mo) (kt et : TypeId) (ht : P.underlying t = some (.map kt et)) (m : Nat) (l : List (ByteArray × Value))
    (hm : a.eval mo = .map (some m)) (hb : w.heap[m]? = some (mapObj l))
    (hK : wpList P ops Q rest (a.put o.dst (.pointer (some ⟨w.heap.size, 0, none⟩))) (w.alloc (iterObj m l.length []))) :
    wpList P ops Q (o :: rest) a w := by
  refine wpList_plain hg fun K' hK' => ?_
  unfold Oper.wp
  simp only [execOp, hop, hm, Sem.run_bind, run_range ht hb, Result.andThen_ok, Sem.run_pure]
  exact hK' _ _ hK

theorem wpList_len (hg : o.guard = none) (mo : Operand) (t : TypeId) (hop : o.op = Op.call { callee := Callee.builtin Builtin.len, args := #[mo], argTypes := #[t] })
    (kt et : TypeId) (ht : P.underlying t = some (.map kt et)) (m : Nat) (l : List (ByteArray × Value)) (hm : a.eval mo = .map (some m)) (hb : w.heap[m]? = some (mapObj l))
    (hK : wpList P ops Q rest (a.put o.dst (.int .i64 l.length)) w) :
    wpList P ops Q (o :: rest) a w := by
  refine wpList_plain hg fun K' hK' => ?_
  unfold Oper.wp
  simp [execOp, hop, resolve, invoke, builtin, hm, run_len ht hb o.type, Result.andThen]
  exact hK' _ _ hK

theorem wpList_next (hg : o.guard = none) (it : Operand) (hop : o.op = Op.next it false) (r m : Nat) (l : List (ByteArray × Value)) (done : List Nat)
    (hit : a.eval it = .pointer (some ⟨r, 0, none⟩)) (hr : w.heap[r]? = some (iterObj m l.length done)) (hb : w.heap[m]? = some (mapObj l))
    (hDone : (∀ i, i < l.length → i ∈ done) → wpList P ops Q rest (a.put o.dst (.tuple #[.bool false])) w)
    (hMore : ∀ i k v w', l[i]? = some (k, v) → i ∉ done → w'.heap[r]? = some (iterObj m l.length (done ++ [i])) → w'.heap[m]? = some (mapObj l) → w.grownBy w' (some r) → w'.heap.size = w.heap.size →
      (Instr.entry (.pointer (some ⟨r, 0, none⟩))).run P w' = .ok (.tuple #[.string k, v]) w' → wpList P ops Q rest (a.put o.dst (.tuple #[.bool true, .string k, v])) w') :
    wpList P ops Q (o :: rest) a w := by
  refine wpList_plain hg fun K' hK' => ?_
  unfold Oper.wp
  rcases run_next (P := P) hr hb o.type with ⟨h0, hrun⟩ | ⟨i, p, w', h1, h2, hrun, h3, h4, h5, h6, h7⟩
  · simp only [execOp, hop, hit, Sem.run_bind, hrun, Result.andThen_ok, Sem.run_pure]
    exact hK' _ _ (hDone h0)
  · simp only [execOp, hop, hit, Sem.run_bind, hrun, Result.andThen_ok, Sem.run_pure]
    exact hK' _ _ (hMore i p.1 p.2 w' h1 h2 h3 h4 h5 h6 h7)
end
end Go.StrMap

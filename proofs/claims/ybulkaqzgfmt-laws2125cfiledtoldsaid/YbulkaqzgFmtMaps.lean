/-
  MAPS KEYED BY STRINGS, INTO WHICH ONLY STORES ARE MADE: THE BLOCK ITSELF, IN THE ORDER OF INSERTION: 'mapObj l'.
-/
import Derived.WalkKit
import Derived.Carry
import Derived.MapKept
import Derived.ChangeMaps5
namespace Go.StrMap
open Go.MapKept Go.ChangeMaps

/-- The entries of a map that was filled by stores alone: the i-th was born at i. -/
def entriesFrom : Nat → List (ByteArray × Value) → List MapEntry
  | _, [] => []
  | i, p :: l => { key := .string p.1, val := p.2, born := i } :: entriesFrom (i + 1) l

def mapObj (l : List (ByteArray × Value)) : Obj := .map (entriesFrom 0 l).toArray l.length

/-- 'm[k]' -/
def getL (k : ByteArray) : List (ByteArray × Value) → Option Value
  | [] => none
  | p :: l => if p.1 = k then some p.2 else getL k l

/-- 'm[k] = v' -/
def putL (k : ByteArray) (v : Value) : List (ByteArray × Value) → List (ByteArray × Value)
  | [] => [(k, v)]
  | p :: l => if p.1 = k then (k, v) :: l else p :: putL k v l

/-- Where k stands, if it does. -/
def posL (k : ByteArray) : List (ByteArray × Value) → Option Nat
  | [] => none
  | p :: l => if p.1 = k then some 0 else (posL k l).map (· + 1)

theorem length_entries : ∀ (l : List (ByteArray × Value)) (i : Nat), (entriesFrom i l).length = l.length
  | [], _ => rfl
  | _ :: l, i => by simp [entriesFrom, length_entries l]

theorem beq_bytes (a b : ByteArray) : (a == b) = decide (a = b) := by
  rw [Bool.eq_iff_iff, bytes_beq]; simp

theorem findNow_entries (k : ByteArray) : ∀ (l : List (ByteArray × Value)) (i j : Nat),
    Instr.findNow .string (.string k) (entriesFrom i l) j = some (match posL k l, getL k l with | some n, some v => some (j + n, v) | _, _ => none)
  | [], _, _ => by simp [entriesFrom, Instr.findNow, posL, getL]
  | p :: l, i, j => by
    by_cases h : p.1 = k
    · simp [entriesFrom, Instr.findNow, Instr.sameNow, posL, getL, h, beq_bytes]
    · have h' : ¬ k = p.1 := fun e => h e.symm
      have ih := findNow_entries k l (i + 1) (j + 1)
      simp only [entriesFrom, Instr.findNow, Instr.sameNow, posL, getL, h, beq_bytes, h', decide_false, if_false]
      rw [ih]
      cases posL k l <;> cases getL k l <;> simp
      omega

theorem pos_get (k : ByteArray) : ∀ l : List (ByteArray × Value), (posL k l = none ∧ getL k l = none) ∨ ∃ n v, posL k l = some n ∧ getL k l = some v
  | [] => .inl ⟨rfl, rfl⟩
  | p :: l => by
    by_cases h : p.1 = k
    · exact .inr ⟨0, p.2, by simp [posL, h], by simp [getL, h]⟩
    · rcases pos_get k l with ⟨h1, h2⟩ | ⟨n, v, h1, h2⟩
      · exact .inl ⟨by simp [posL, h, h1], by simp [getL, h, h2]⟩
      · exact .inr ⟨n + 1, v, by simp [posL, h, h1], by simp [getL, h, h2]⟩

theorem entries_append : ∀ (l r : List (ByteArray × Value)) (i : Nat), entriesFrom i (l ++ r) = entriesFrom i l ++ entriesFrom (i + l.length) r
  | [], r, i => by simp [entriesFrom]
  | p :: l, r, i => by
    simp only [List.cons_append, entriesFrom, entries_append l r (i + 1), List.length_cons]
    rw [show i + 1 + l.length = i + (l.length + 1) from by omega]

theorem putL_new {k : ByteArray} {v : Value} : ∀ {l : List (ByteArray × Value)}, getL k l = none → putL k v l = l ++ [(k, v)]
  | [], _ => rfl
  | p :: l, h => by
    by_cases e : p.1 = k
    · simp [getL, e] at h
    · simp only [getL, e, if_false] at h
      simp [putL, e, putL_new h]

theorem length_put_new {k : ByteArray} {v : Value} {l : List (ByteArray × Value)} (h : getL k l = none) : (putL k v l).length = l.length + 1 := by
  rw [putL_new h]; simp

theorem length_put_old {k : ByteArray} {v : Value} : ∀ {l : List (ByteArray × Value)} {u : Value}, getL k l = some u → (putL k v l).length = l.length
  | [], _, h => by simp [getL] at h
  | p :: l, u, h => by
    by_cases e : p.1 = k
    · simp [putL, e]
    · simp only [getL, e, if_false] at h
      simp [putL, e, length_put_old h]

theorem modify_entries {k : ByteArray} {v : Value} : ∀ {l : List (ByteArray × Value)} {n : Nat} (i : Nat), posL k l = some n →
    (entriesFrom i l).modify n (fun e => { e with key := .string k, val := v }) = entriesFrom i (putL k v l)
  | [], _, _, h => by simp [posL] at h
  | p :: l, n, i, h => by
    by_cases e : p.1 = k
    · simp only [posL, e, if_true, Option.some.injEq] at h
      subst h
      simp [entriesFrom, putL, e]
    · simp only [posL, e, if_false, Option.map_eq_some_iff] at h
      obtain ⟨m, hm, rfl⟩ := h
      simp only [entriesFrom, putL, e, if_false, List.modify_succ_cons]
      rw [modify_entries (i + 1) hm]

theorem get_entries {k : ByteArray} : ∀ {l : List (ByteArray × Value)} {n : Nat} (i : Nat), posL k l = some n → ∃ e, (entriesFrom i l)[n]? = some e ∧ e.key = .string k
  | [], _, _, h => by simp [posL] at h
  | p :: l, n, i, h => by
    by_cases e : p.1 = k
    · simp only [posL, e, if_true, Option.some.injEq] at h
      subst h
      exact ⟨_, rfl, by simp [e]⟩
    · simp only [posL, e, if_false, Option.map_eq_some_iff] at h
      obtain ⟨m, hm, rfl⟩ := h
      simpa [entriesFrom] using get_entries (i + 1) hm

section
variable {P : Program} {w : World} {t kt et : TypeId} {b : Nat} {l : List (ByteArray × Value)}

theorem isKey_str (k : ByteArray) : IsKey .string (.string k) := by simp [IsKey]

theorem run_find (hk : P.underlying kt = some .string) (k : ByteArray) :
    (Instr.findKey kt (.string k) (entriesFrom 0 l)).run P w = .ok (match posL k l, getL k l with | some n, some v => some (n, v) | _, _ => none) w := by
  have h := findNow_entries k l 0 0
  simp only [Nat.zero_add] at h
  exact run_findKey hk h

/-- 'm[k]', 'v, ok := m[k]' -/
theorem run_lookup (ht : P.underlying t = some (.map kt et)) (hk : P.underlying kt = some .string) {z : Value} (hz : (zeroValue et).run P w = .ok z w)
    (hb : w.heap[b]? = some (mapObj l)) (k : ByteArray) (c : Bool) :
    (Instr.lookup t (.map (some b)) (.string k) c).run P w = .ok (if c then .tuple #[(getL k l).getD z, .bool (getL k l).isSome] else (getL k l).getD z) w := by
  have hf := run_find (P := P) (w := w) (l := l) hk k
  rcases pos_get k l with ⟨h1, h2⟩ | ⟨n, v, h1, h2⟩
  · rw [h1, h2] at hf
    simp [Instr.lookup, run_underlying ht, MapKept.run_getObj_map hb, run_checkKey hk (isKey_str k), hf, hz, h2, Result.andThen]
  · rw [h1, h2] at hf
    simp [Instr.lookup, run_underlying ht, MapKept.run_getObj_map hb, run_checkKey hk (isKey_str k), hf, h2, Result.andThen]

/-- 'm[k] = v' -/
theorem run_update (ht : P.underlying t = some (.map kt et)) (hk : P.underlying kt = some .string)
    (hb : w.heap[b]? = some (mapObj l)) (k : ByteArray) (v : Value) :
    (Instr.mapUpdate t (.map (some b)) (.string k) v).run P w = .ok () (setBlock w b (mapObj (putL k v l))) := by
  have hf := run_find (P := P) (w := w) (l := l) hk k
  rcases pos_get k l with ⟨h1, h2⟩ | ⟨n, u, h1, h2⟩
  · rw [h1, h2] at hf
    simp [Instr.mapUpdate, run_underlying ht, MapKept.run_getObj_map hb, run_checkKey hk (isKey_str k), hf, MapKept.run_setObj_map _ hb, Result.andThen, setBlock, mapObj, putL_new h2, entries_append, entriesFrom]
  · rw [h1, h2] at hf
    obtain ⟨e, he, hek⟩ := get_entries 0 h1
    have hm := modify_entries (v := v) 0 h1
    have hl := length_put_old (v := v) h2
    simp [Instr.mapUpdate, run_underlying ht, MapKept.run_getObj_map hb, run_checkKey hk (isKey_str k), hf, he, hek, run_keyThatStays (isKey_str k), MapKept.run_setObj_map _ hb, Result.andThen, setBlock, mapObj, hm, hl]
end

theorem heap_set_same {w : World} {b : Nat} {l l' : List (ByteArray × Value)} (hb : w.heap[b]? = some (mapObj l)) : (setBlock w b (mapObj l')).heap[b]? = some (mapObj l') := heap_setBlock_same hb _

theorem grown_set {w : World} {b : Nat} {l l' : List (ByteArray × Value)} (hb : w.heap[b]? = some (mapObj l)) : w.grownBy (setBlock w b (mapObj l')) (some b) :=
  ⟨rfl, rfl, rfl, by simp [setBlock], fun i _ hi => heap_setBlock_other hb _ (fun e => hi (by rw [e]))⟩

/-! ### at the operation, for the walk -/
section
variable {P : Program} (w : World) {ops : Array Oper} {rest : List Oper} {o : Oper} {a : Act} {Q : Exit → Act → World → Prop}

theorem wpList_lookup (hg : o.guard = none) (m x : Operand) (t : TypeId) (c : Bool) (hop : o.op = Op.lookup t m x c)
    (kt et : TypeId) (ht : P.underlying t = some (.map kt et)) (hk : P.underlying kt = some .string) (z : Value) (hz : (zeroValue et).run P w = .ok z w) (b : Nat) (l : List (ByteArray × Value))
    (hm : a.eval m = .map (some b)) (hb : w.heap[b]? = some (mapObj l)) (k : ByteArray) (hx : a.eval x = .string k) (r : Value)
    (hr : (if c then .tuple #[(getL k l).getD z, .bool (getL k l).isSome] else (getL k l).getD z) = r)
    (hK : wpList P ops Q rest (a.put o.dst r) w) :
    wpList P ops Q (o :: rest) a w := by
  refine wpList_plain hg fun K' hK' => ?_
  unfold Oper.wp
  subst hr
  simp only [execOp, hop, hm, hx, Sem.run_bind, run_lookup ht hk hz hb k c, Result.andThen_ok, Sem.run_pure]
  exact hK' _ _ hK

theorem wpList_update (hg : o.guard = none) (m x v : Operand) (t : TypeId) (hop : o.op = Op.mapUpdate t m x v)
    (kt et : TypeId) (ht : P.underlying t = some (.map kt et)) (hk : P.underlying kt = some .string) (b : Nat) (l : List (ByteArray × Value))
    (hm : a.eval m = .map (some b)) (hb : w.heap[b]? = some (mapObj l)) (k : ByteArray) (hx : a.eval x = .string k) (u : Value) (hv : a.eval v = u)
    (hK : ∀ w', w'.heap[b]? = some (mapObj (putL k u l)) → w.grownBy w' (some b) → w'.heap.size = w.heap.size → wpList P ops Q rest (a.put o.dst undef) w') :
    wpList P ops Q (o :: rest) a w := by
  refine wpList_plain hg fun K' hK' => ?_
  unfold Oper.wp
  simp only [execOp, hop, hm, hx, hv, Sem.run_bind, run_update ht hk hb k u, Result.andThen_ok, Sem.run_pure]
  exact hK' _ _ (hK _ (heap_set_same hb) (grown_set hb) (by simp [setBlock]))

/-- A composite literal's entry. -/
theorem wpList_insert (hg : o.guard = none) (m x v : Operand) (t : TypeId) (hop : o.op = Op.insert t m x v)
    (kt et : TypeId) (ht : P.underlying t = some (.map kt et)) (hk : P.underlying kt = some .string) (b : Nat) (l : List (ByteArray × Value))
    (hm : a.eval m = .map (some b)) (hb : w.heap[b]? = some (mapObj l)) (k : ByteArray) (hx : a.eval x = .string k) (u : Value) (hv : a.eval v = u)
    (hK : ∀ w', w'.heap[b]? = some (mapObj (putL k u l)) → w.grownBy w' (some b) → w'.heap.size = w.heap.size → wpList P ops Q rest (a.put o.dst undef) w') :
    wpList P ops Q (o :: rest) a w := by
  refine wpList_plain hg fun K' hK' => ?_
  unfold Oper.wp
  simp only [execOp, hop, hm, hx, hv, Sem.run_bind, run_update ht hk hb k u, Result.andThen_ok, Sem.run_pure]
  exact hK' _ _ (hK _ (heap_set_same hb) (grown_set hb) (by simp [setBlock]))
end
end Go.StrMap

/-
  THE REQUESTS IN THEIR ORDER, IN THE HEAP: a row of one's own, six cells a request.
-/
import Derived.Test.YbulkarawPushNew
import Derived.Test.YbulkarawDelete
import Derived.Laws.AppendOwnNone
namespace Go.Proofs.Ybulkaraw
open Go.RowKit

abbrev reqL (r : Req) : List Value := [N64 r.txn, N64 r.op, N64 r.want, N64 r.seq, N64 r.key, N64 r.slot]
def reqCells (m : List Req) : List Value := m.flatMap reqL

theorem reqCells_nil : reqCells [] = [] := rfl
theorem reqCells_cons (r : Req) (m : List Req) : reqCells (r :: m) = reqL r ++ reqCells m := rfl
theorem reqCells_append (a b : List Req) : reqCells (a ++ b) = reqCells a ++ reqCells b := by simp [reqCells]
theorem reqCells_length (m : List Req) : (reqCells m).length = m.length * 6 := by
  induction m with
  | nil => rfl
  | cons r m ih => rw [reqCells_cons, List.length_append, ih]; simp; omega
theorem reqCells_one (m : List Req) : ∀ u ∈ reqCells m, u.oneCell' = true := by
  intro u hu
  simp only [reqCells, List.mem_flatMap] at hu
  obtain ⟨r, _, hu⟩ := hu
  simp at hu
  rcases hu with rfl | rfl | rfl | rfl | rfl | rfl <;> rfl

theorem reqCells_at {m : List Req} {i c : Nat} {r : Req} {u : Value} (h : m[i]? = some r) (hc : (reqL r)[c]? = some u) : (reqCells m)[i * 6 + c]? = some u := by
  have hc6 : c < 6 := by have := (List.getElem?_eq_some_iff.1 hc).1; simpa using this
  induction m generalizing i with
  | nil => simp at h
  | cons a m ih =>
    rw [reqCells_cons]
    cases i with
    | zero =>
      simp only [List.getElem?_cons_zero, Option.some.injEq] at h
      subst h
      rw [List.getElem?_append_left (by simp; omega), Nat.zero_mul, Nat.zero_add]
      exact hc
    | succ i =>
      rw [List.getElem?_append_right (by simp; omega), show (i + 1) * 6 + c - (reqL a).length = i * 6 + c by simp; omega]
      exact ih (by simpa using h)

/-- The six cells of a request of the row. -/
theorem row_req {W : World} {base g cap n : Nat} {m : List Req} {i : Nat} {r : Req} (h : W.ownsRow base 60 6 (.slice (some ⟨g, 0, none⟩) n cap) n (reqCells m)) (hi : m[i]? = some r) :
    W.cell? ⟨g, i * 6, none⟩ = some (N64 r.txn) ∧ W.cell? ⟨g, i * 6 + 1, none⟩ = some (N64 r.op) ∧ W.cell? ⟨g, i * 6 + 2, none⟩ = some (N64 r.want) ∧ W.cell? ⟨g, i * 6 + 3, none⟩ = some (N64 r.seq) ∧ W.cell? ⟨g, i * 6 + 4, none⟩ = some (N64 r.key) ∧ W.cell? ⟨g, i * 6 + 5, none⟩ = some (N64 r.slot) :=
  ⟨ownsRow_cell h (reqCells_at (c := 0) hi rfl), ownsRow_cell h (reqCells_at (c := 1) hi rfl), ownsRow_cell h (reqCells_at (c := 2) hi rfl), ownsRow_cell h (reqCells_at (c := 3) hi rfl), ownsRow_cell h (reqCells_at (c := 4) hi rfl), ownsRow_cell h (reqCells_at (c := 5) hi rfl)⟩

theorem Kept.row {W w' : World} (h : Kept W w') {base size n : Nat} {v : Value} {xs : List Value} (hr : W.ownsRow base 60 size v n xs) : w'.ownsRow base 60 size v n xs := by
  refine ⟨hr.1, ?_⟩
  rcases hr.2 with hn | ⟨g, cap, cur, h1, h2, h3, h4⟩
  · exact .inl hn
  · exact .inr ⟨g, cap, cur, h1, h2, h _ _ _ _ h3 (by decide) (by decide) (by decide), h4⟩

theorem ownsRow_res {W : World} {base e size n b : Nat} {v : Value} {xs : List Value} (hr : W.ownsRow base e size v n xs) (r : Req) (hb : v.ownBlock ≠ some b) : (resWorld W b r).ownsRow base e size v n xs := by
  have hB := res_below (Nat.zero_le b) W r
  have hgr : W.grownBy (resWorld W b r) (some b) := ⟨hB.os, hB.tape, hB.output, hB.size, fun j _ hj => res_other W b r j (fun e => hj (by rw [e]))⟩
  exact hr.kept hgr (.inr hb)

/-- A row of requests grows: the queue stands. -/
theorem QAt.rowGrown {base qb : Nat} {X : Q} {sV fV : Value} {W w' : World} (h : QAt base qb X sV fV W) {size n : Nat} {v : Value} {xs : List Value} (hr : W.ownsRow base 60 size v n xs) (hg : W.grownBy w' v.ownBlock) : QAt base qb X sV fV w' := by
  obtain ⟨ys, h1, h2⟩ := h.slots
  exact ⟨h.big, kept_at hg h.blk (row_ne hr h.blk (by decide)), ⟨ys, h1.kept hg (rows_ne hr h1 (by decide)), h2⟩, h.free.kept hg (rows_ne hr h.free (by decide))⟩

/-- What 'zzs2128bbuild' holds between two rounds. -/
structure BAt (base qb : Nat) (X : Q) (m : List Req) (c : Nat) (mv sV fV : Value) (W : World) : Prop where
  q : QAt base qb X sV fV W
  inv : Inv X m c
  row : W.ownsRow base 60 6 mv m.length (reqCells m)
  size : base ≤ W.heap.size
end Go.Proofs.Ybulkaraw

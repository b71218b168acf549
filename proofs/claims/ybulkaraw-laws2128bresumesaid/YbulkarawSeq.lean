/-
  THE WALK OF A QUEUE, PLAIN: the requests of a list from one of its ends, as far as their keys go.
-/
import Derived.Test.YbulkarawInv
namespace Go.Proofs.Ybulkaraw

/-- The requests of list k, front first. -/
def orderOf (k : Nat) (m : List Req) : List Req := if k = 0 then m else exclusive m
/-- The requests of list k, nearest the end on side d first. -/
def seqOf (d k : Nat) (m : List Req) : List Req := if d = 0 then orderOf k m else (orderOf k m).reverse
def onSide (d : Nat) (key : Int) (r : Req) : Bool := if d = 0 then decide (r.key < key) else decide (key < r.key)
/-- 'zzs2128bexpect', plain. -/
def expectL (m : List Req) (d k : Nat) (key : Int) : List Req := (seqOf d k m).takeWhile (onSide d key)

/-- From p inward of side d along list k the requests Z stand. -/
def Chain (X : Q) (d k : Nat) : Int → List Req → Prop
  | p, [] => p = -1
  | p, r :: B => p = r.slot ∧ r.slot < X.n ∧ X.rq r.slot = r ∧ Chain X d k (X.nb r.slot (1 - d) k) B

theorem Chain.inner {X : Q} {d k : Nat} {A B : List Req} {r : Req} {p : Int} (h : Chain X d k p (A ++ r :: B)) : r.slot < X.n ∧ Chain X d k (X.nb r.slot (1 - d) k) B := by
  induction A generalizing p with
  | nil => exact ⟨h.2.1, h.2.2.2⟩
  | cons a A ih => exact ih h.2.2.2

theorem chain_ahead {X : Q} {k : Nat} {Z : List Req} {p : Int} (hZ : ∀ r ∈ Z, r.slot < X.n ∧ X.rq r.slot = r) (h : dl X.nb k p (slotsOf Z) (-1)) : Chain X 0 k (hd (slotsOf Z) (-1)) Z := by
  induction Z generalizing p with
  | nil => rfl
  | cons r B ih =>
    obtain ⟨_, h2, h3⟩ := h
    refine ⟨rfl, (hZ r (by simp)).1, (hZ r (by simp)).2, ?_⟩
    have := ih (fun x hx => hZ x (by simp [hx])) h3
    show Chain X 0 k (X.nb r.slot 1 k) B
    rw [h2]
    exact this

theorem chain_behind {X : Q} {k : Nat} (Z : List Req) : ∀ (q : Int), (∀ r ∈ Z, r.slot < X.n ∧ X.rq r.slot = r) → dl X.nb k (-1) (slotsOf Z.reverse) q → Chain X 1 k (la (slotsOf Z.reverse) (-1)) Z := by
  induction Z with
  | nil => intro q _ _; rfl
  | cons r B ih =>
    intro q hZ h
    have e : slotsOf (r :: B).reverse = slotsOf B.reverse ++ [r.slot] := by simp [slotsOf]
    rw [e] at h ⊢
    rw [dl_append] at h
    obtain ⟨h1, h2, _⟩ := h
    refine ⟨by rw [la_append_one], (hZ r (by simp)).1, (hZ r (by simp)).2, ?_⟩
    show Chain X 1 k (X.nb r.slot 0 k) B
    rw [h2]
    exact ih _ (fun x hx => hZ x (by simp [hx])) h1

theorem order_sub {k : Nat} {m : List Req} {r : Req} (h : r ∈ orderOf k m) : r ∈ m := by
  unfold orderOf at h
  split at h
  · exact h
  · exact (List.mem_filter.1 h).1

theorem Inv.thread {X : Q} {m : List Req} {c k : Nat} (h : Inv X m c) (hk : k < 2) : Thread X k (slotsOf (orderOf k m)) := by
  have : k = 0 ∨ k = 1 := by omega
  rcases this with rfl | rfl
  · exact h.every
  · exact h.excl

/-- Where a walk begins. -/
def startOf (X : Q) (d k : Nat) : Int := if X.len k = 0 then -1 else X.en k d

theorem Inv.chain {X : Q} {m : List Req} {c d k : Nat} (h : Inv X m c) (hd : d < 2) (hk : k < 2) : Chain X d k (startOf X d k) (seqOf d k m) := by
  have t := h.thread hk
  have hZ : ∀ r ∈ orderOf k m, r.slot < X.n ∧ X.rq r.slot = r := fun r hr => h.at' r (order_sub hr)
  have hlen := t.len
  by_cases h0 : orderOf k m = []
  · have : seqOf d k m = [] := by unfold seqOf; split <;> simp [h0]
    rw [this]
    show startOf X d k = -1
    rw [startOf, if_pos (by rw [hlen, h0]; rfl)]
  · have hne : slotsOf (orderOf k m) ≠ [] := by simpa [slotsOf] using h0
    have hl : ¬ X.len k = 0 := by
      rw [hlen]
      intro e
      exact hne (List.length_eq_zero_iff.1 e)
    obtain ⟨e0, e1⟩ := t.ends hne
    rw [startOf, if_neg hl]
    have : d = 0 ∨ d = 1 := by omega
    rcases this with rfl | rfl
    · rw [e0]
      exact chain_ahead hZ t.links
    · rw [e1]
      have hrev : orderOf k m = (seqOf 1 k m).reverse := by simp [seqOf]
      have := chain_behind (X := X) (k := k) (seqOf 1 k m) (-1) (fun r hr => hZ r (by simpa [seqOf] using hr)) (by rw [← hrev]; exact t.links)
      rw [← hrev] at this
      exact this

theorem seq_length (d k : Nat) (m : List Req) : (seqOf d k m).length ≤ m.length := by
  have : (orderOf k m).length ≤ m.length := by
    unfold orderOf
    split
    · exact Nat.le_refl _
    · exact List.length_filter_le _ _
  unfold seqOf
  split
  · exact this
  · simpa using this

theorem expect_length (m : List Req) (d k : Nat) (key : Int) : (expectL m d k key).length ≤ m.length := Nat.le_trans (List.takeWhile_prefix _).length_le (seq_length d k m)

theorem takeWhile_drop {α : Type} (p : α → Bool) (L : List α) (j : Nat) (hj : j < (L.takeWhile p).length) : ∃ A r B, L = A ++ r :: B ∧ (L.takeWhile p)[j]? = some r ∧ B.takeWhile p = (L.takeWhile p).drop (j + 1) := by
  induction L generalizing j with
  | nil => simp at hj
  | cons a L ih =>
    by_cases ha : p a = true
    · rw [List.takeWhile_cons_of_pos ha] at hj ⊢
      cases j with
      | zero => exact ⟨[], a, L, rfl, rfl, rfl⟩
      | succ j =>
        obtain ⟨A, r, B, e1, e2, e3⟩ := ih j (by simpa using hj)
        exact ⟨a :: A, r, B, by simp [e1], by simpa using e2, by simpa using e3⟩
    · rw [List.takeWhile_cons_of_neg ha] at hj
      simp at hj

/-- The walk that resumes behind the j-th of those it has yielded. -/
theorem Inv.resume {X : Q} {m : List Req} {c d k j : Nat} {key : Int} (h : Inv X m c) (hd : d < 2) (hk : k < 2) (hj : j < (expectL m d k key).length) :
    ∃ r B, (expectL m d k key)[j]? = some r ∧ r.slot < X.n ∧ Chain X d k (X.nb r.slot (1 - d) k) B ∧ B.length ≤ m.length ∧ B.takeWhile (onSide d key) = (expectL m d k key).drop (j + 1) := by
  obtain ⟨A, r, B, e1, e2, e3⟩ := takeWhile_drop (onSide d key) (seqOf d k m) j hj
  have hc := h.chain hd hk
  rw [e1] at hc
  have hl := seq_length d k m
  rw [e1] at hl
  simp at hl
  exact ⟨r, B, e2, hc.inner.1, hc.inner.2, by omega, e3⟩
end Go.Proofs.Ybulkaraw

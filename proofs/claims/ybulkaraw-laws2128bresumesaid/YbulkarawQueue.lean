/-
  THE QUEUE, PLAIN: no Go in sight. Two doubly linked lists threaded through the slots; the requests in their order.
-/
import Derived.Test.YbulkarawProg
namespace Go.Proofs.Ybulkaraw

structure Req where
  txn : Int
  op : Int
  want : Int
  seq : Int
  key : Int
  slot : Nat
deriving DecidableEq

/-- The queue's state: the slots (n of them: what each holds, whom it stands beside, by side and list), the free ones, the lists' lengths and ends. -/
structure Q where
  n : Nat
  rq : Nat → Req
  nb : Nat → Nat → Nat → Int
  free : List Nat
  len : Nat → Nat
  en : Nat → Nat → Int

def upd (f : Nat → Nat → Nat → Int) (s d k : Nat) (v : Int) : Nat → Nat → Nat → Int := fun s' d' k' => if s' = s ∧ d' = d ∧ k' = k then v else f s' d' k'
def updEn (f : Nat → Nat → Int) (k d : Nat) (v : Int) : Nat → Nat → Int := fun k' d' => if k' = k ∧ d' = d then v else f k' d'
def updLen (f : Nat → Nat) (k : Nat) (v : Nat) : Nat → Nat := fun k' => if k' = k then v else f k'

def hd (L : List Nat) (q : Int) : Int := match L with | [] => q | s :: _ => (s : Int)
def la (L : List Nat) (p : Int) : Int := match L.getLast? with | none => p | some s => (s : Int)

@[simp] theorem hd_nil (q : Int) : hd [] q = q := rfl
@[simp] theorem hd_cons (s : Nat) (L : List Nat) (q : Int) : hd (s :: L) q = s := rfl
@[simp] theorem la_nil (q : Int) : la [] q = q := rfl
theorem la_cons (s : Nat) (L : List Nat) (p : Int) : la (s :: L) p = la L s := by
  unfold la
  rw [List.getLast?_cons]
  cases L.getLast? <;> rfl
@[simp] theorem la_append_one (L : List Nat) (s : Nat) (p : Int) : la (L ++ [s]) p = s := by simp [la]
theorem la_append (A B : List Nat) (p : Int) : la (A ++ B) p = la B (la A p) := by
  induction A generalizing p with
  | nil => rfl
  | cons a A ih => rw [List.cons_append, la_cons, la_cons, ih]
theorem hd_append (A B : List Nat) (q : Int) : hd (A ++ B) q = hd A (hd B q) := by cases A <;> rfl
theorem la_mem {L : List Nat} (h : L ≠ []) (p : Int) : ∃ s, s ∈ L ∧ la L p = s := by
  unfold la
  cases e : L.getLast? with
  | none => simp [List.getLast?_eq_none_iff] at e; exact absurd e h
  | some s => exact ⟨s, List.mem_of_getLast? e, rfl⟩
theorem hd_mem {L : List Nat} (h : L ≠ []) (p : Int) : ∃ s, s ∈ L ∧ hd L p = s := by
  cases L with
  | nil => exact absurd rfl h
  | cons s L => exact ⟨s, by simp, rfl⟩

theorem nil_or_snoc (L : List Nat) : L = [] ∨ ∃ A z, L = A ++ [z] := by
  by_cases h : L = []
  · exact .inl h
  · exact .inr ⟨L.dropLast, L.getLast h, (List.dropLast_concat_getLast h).symm⟩

/-- A doubly linked segment: p stands ahead of it, q behind. -/
def dl (nb : Nat → Nat → Nat → Int) (k : Nat) : Int → List Nat → Int → Prop
  | _, [], _ => True
  | p, s :: L, q => nb s 0 k = p ∧ nb s 1 k = hd L q ∧ dl nb k s L q

theorem dl_append {nb : Nat → Nat → Nat → Int} {k : Nat} {A B : List Nat} {p q : Int} : dl nb k p (A ++ B) q ↔ dl nb k p A (hd B q) ∧ dl nb k (la A p) B q := by
  induction A generalizing p with
  | nil => simp [dl]
  | cons a A ih => simp only [List.cons_append, dl, ih, la_cons, hd_append, and_assoc]

theorem dl_congr {nb nb' : Nat → Nat → Nat → Int} {k : Nat} {L : List Nat} {p q : Int} (h : ∀ s ∈ L, ∀ d, nb' s d k = nb s d k) : dl nb k p L q → dl nb' k p L q := by
  induction L generalizing p with
  | nil => simp [dl]
  | cons a L ih =>
    rintro ⟨h1, h2, h3⟩
    exact ⟨(h a (by simp) 0).trans h1, (h a (by simp) 1).trans h2, ih (fun s hs => h s (by simp [hs])) h3⟩

/-- The last one's neighbour behind is turned. -/
theorem dl_setLast {nb : Nat → Nat → Nat → Int} {k : Nat} {A : List Nat} {s : Nat} {p q q' : Int} (hn : (A ++ [s]).Nodup) (h : dl nb k p (A ++ [s]) q) : dl (upd nb s 1 k q') k p (A ++ [s]) q' := by
  rw [dl_append] at h ⊢
  have hs : s ∉ A := fun hm => by
    have := List.nodup_append.1 hn
    exact this.2.2 s hm s (by simp) rfl
  refine ⟨dl_congr (fun x hx d => ?_) h.1, ?_⟩
  · have : x ≠ s := fun e => hs (e ▸ hx)
    simp [upd, this]
  · obtain ⟨h1, h2, h3⟩ := h.2
    exact ⟨by simp [upd, h1], by simp [upd], trivial⟩

/-- The first one's neighbour ahead is turned. -/
theorem dl_setHead {nb : Nat → Nat → Nat → Int} {k : Nat} {L : List Nat} {s : Nat} {p p' q : Int} (hn : (s :: L).Nodup) (h : dl nb k p (s :: L) q) : dl (upd nb s 0 k p') k p' (s :: L) q := by
  obtain ⟨h1, h2, h3⟩ := h
  have hs : s ∉ L := (List.nodup_cons.1 hn).1
  refine ⟨by simp [upd], by simp [upd, h2], dl_congr (fun x hx d => ?_) h3⟩
  have : x ≠ s := fun e => hs (e ▸ hx)
  simp [upd, this]

/-- List k of the queue threads the slots L. -/
structure Thread (X : Q) (k : Nat) (L : List Nat) : Prop where
  len : X.len k = L.length
  ends : L ≠ [] → X.en k 0 = hd L (-1) ∧ X.en k 1 = la L (-1)
  links : dl X.nb k (-1) L (-1)
  nodup : L.Nodup

/-- 'link', plain. -/
def linkQ (X : Q) (k s d : Nat) : Q :=
  let nb1 := upd (upd X.nb s 0 k (-1)) s 1 k (-1)
  if X.len k = 0 then { X with nb := nb1, en := updEn (updEn X.en k 0 s) k 1 s, len := updLen X.len k (X.len k + 1) }
  else { X with nb := upd (upd nb1 s (1 - d) k (X.en k d)) (X.en k d).toNat d k s, en := updEn X.en k d s, len := updLen X.len k (X.len k + 1) }

theorem link_same {X : Q} {k s d : Nat} (k' : Nat) (h : k' ≠ k) : (linkQ X k s d).len k' = X.len k' ∧ (∀ e, (linkQ X k s d).en k' e = X.en k' e) ∧ ∀ s' e, (linkQ X k s d).nb s' e k' = X.nb s' e k' := by
  unfold linkQ
  split <;> refine ⟨?_, ?_, ?_⟩ <;> simp [updLen, updEn, upd, h]

theorem Thread.other {X : Q} {k k' s d : Nat} {L : List Nat} (h : Thread X k' L) (hk : k' ≠ k) : Thread (linkQ X k s d) k' L := by
  obtain ⟨h1, h2, h3⟩ := link_same (X := X) (k := k) (s := s) (d := d) k' hk
  exact ⟨h1.trans h.len, fun hl => ⟨(h2 0).trans (h.ends hl).1, (h2 1).trans (h.ends hl).2⟩, dl_congr (fun x _ e => h3 x e) h.links, h.nodup⟩

/-- A slot joins the list at its end behind. -/
theorem Thread.back {X : Q} {k s : Nat} {L : List Nat} (h : Thread X k L) (hs : s ∉ L) : Thread (linkQ X k s 1) k (L ++ [s]) := by
  have hn : (L ++ [s]).Nodup := by
    rw [List.nodup_append]
    exact ⟨h.nodup, by simp, fun a ha b hb e => by simp at hb; subst hb; exact hs (e ▸ ha)⟩
  unfold linkQ
  have hlen := h.len
  split
  · rename_i h0
    obtain rfl : L = [] := List.length_eq_zero_iff.1 (by omega)
    refine ⟨by simp [updLen, h0], fun _ => ⟨by simp [updEn], by simp [updEn, la]⟩, ⟨by simp [upd], by simp [upd], trivial⟩, by simp⟩
  · rename_i h0
    have hne : L ≠ [] := by intro e; simp [e] at hlen; exact h0 hlen
    obtain ⟨e0, e1⟩ := h.ends hne
    obtain ⟨A, z, rfl⟩ : ∃ A z, L = A ++ [z] := ⟨L.dropLast, L.getLast hne, (List.dropLast_concat_getLast hne).symm⟩
    rw [la_append_one] at e1
    have hz : z ≠ s := fun e => hs (by simp [e])
    have hzn : (X.en k 1).toNat = z := by rw [e1]; simp
    rw [hzn]
    refine ⟨by simp [updLen, hlen], fun _ => ⟨?_, by rw [la_append_one]; simp [updEn]⟩, ?_, hn⟩
    · simp only [updEn]
      rw [if_neg (by simp), e0, hd_append, hd_append, hd_append]
      cases A <;> rfl
    · rw [dl_append]
      refine ⟨?_, ?_⟩
      · refine dl_setLast (q := -1) h.nodup (dl_congr (fun x hx d => ?_) h.links)
        have : x ≠ s := fun e => hs (e ▸ hx)
        simp [upd, this]
      · rw [la_append_one]
        refine ⟨?_, ?_, trivial⟩
        · simp [upd, hz.symm, e1]
        · simp [upd, hz.symm]

/-- A slot joins the list at its end ahead. -/
theorem Thread.front {X : Q} {k s : Nat} {L : List Nat} (h : Thread X k L) (hs : s ∉ L) : Thread (linkQ X k s 0) k (s :: L) := by
  have hn : (s :: L).Nodup := List.nodup_cons.2 ⟨hs, h.nodup⟩
  unfold linkQ
  have hlen := h.len
  split
  · rename_i h0
    obtain rfl : L = [] := List.length_eq_zero_iff.1 (by omega)
    refine ⟨by simp [updLen, h0], fun _ => ⟨by simp [updEn], by simp [updEn, la]⟩, ⟨by simp [upd], by simp [upd], trivial⟩, by simp⟩
  · rename_i h0
    have hne : L ≠ [] := by intro e; simp [e] at hlen; exact h0 hlen
    obtain ⟨e0, e1⟩ := h.ends hne
    obtain ⟨z, A, rfl⟩ : ∃ z A, L = z :: A := by
      cases L with
      | nil => exact absurd rfl hne
      | cons z A => exact ⟨z, A, rfl⟩
    rw [hd_cons] at e0
    have hz : z ≠ s := fun e => hs (by simp [e])
    have hzn : (X.en k 0).toNat = z := by rw [e0]; simp
    rw [hzn]
    refine ⟨by simp [updLen, hlen], fun _ => ⟨by simp [updEn], ?_⟩, ?_, hn⟩
    · simp only [updEn]
      rw [if_neg (by simp), e1, la_cons, la_cons, la_cons]
    · refine ⟨?_, ?_, ?_⟩
      · simp [upd, hz.symm]
      · simp [upd, hz.symm, e0]
      · refine dl_setHead (p := -1) h.nodup (dl_congr (fun x hx d => ?_) h.links)
        have : x ≠ s := fun e => hs (e ▸ hx)
        simp [upd, this]

/-- One round of 'unlink', plain: side d. -/
def unlinkStep (X : Q) (k s d : Nat) : Q :=
  if X.nb s d k < 0 then { X with en := updEn X.en k d (X.nb s (1 - d) k) }
  else { X with nb := upd X.nb (X.nb s d k).toNat (1 - d) k (X.nb s (1 - d) k) }

/-- 'unlink', plain. -/
def unlinkQ (X : Q) (k s : Nat) : Q :=
  let Y := unlinkStep (unlinkStep X k s 0) k s 1
  { Y with len := updLen Y.len k (Y.len k - 1) }

theorem unlinkStep_keeps (X : Q) (k s d : Nat) : (unlinkStep X k s d).n = X.n ∧ (unlinkStep X k s d).rq = X.rq ∧ (unlinkStep X k s d).free = X.free ∧ (unlinkStep X k s d).len = X.len := by
  unfold unlinkStep
  split <;> simp

theorem unlinkStep_other (X : Q) (k s d k' : Nat) (h : k' ≠ k) : (∀ e, (unlinkStep X k s d).en k' e = X.en k' e) ∧ ∀ s' e, (unlinkStep X k s d).nb s' e k' = X.nb s' e k' := by
  unfold unlinkStep
  split <;> refine ⟨?_, ?_⟩ <;> simp [updEn, upd, h]

theorem linkQ_keeps (X : Q) (k s d : Nat) : (linkQ X k s d).n = X.n ∧ (linkQ X k s d).rq = X.rq ∧ (linkQ X k s d).free = X.free := by
  unfold linkQ
  split <;> simp

theorem unlinkQ_keeps (X : Q) (k s : Nat) : (unlinkQ X k s).n = X.n ∧ (unlinkQ X k s).rq = X.rq ∧ (unlinkQ X k s).free = X.free := by
  unfold unlinkQ
  have h0 := unlinkStep_keeps X k s 0
  have h1 := unlinkStep_keeps (unlinkStep X k s 0) k s 1
  exact ⟨h1.1.trans h0.1, h1.2.1.trans h0.2.1, h1.2.2.1.trans h0.2.2.1⟩

theorem Thread.unlinkOther {X : Q} {k k' s : Nat} {L : List Nat} (h : Thread X k' L) (hk : k' ≠ k) : Thread (unlinkQ X k s) k' L := by
  obtain ⟨a1, a2⟩ := unlinkStep_other X k s 0 k' hk
  obtain ⟨b1, b2⟩ := unlinkStep_other (unlinkStep X k s 0) k s 1 k' hk
  have h0 := unlinkStep_keeps X k s 0
  have h1 := unlinkStep_keeps (unlinkStep X k s 0) k s 1
  refine ⟨?_, fun hl => ⟨((b1 0).trans (a1 0)).trans (h.ends hl).1, ((b1 1).trans (a1 1)).trans (h.ends hl).2⟩, dl_congr (fun x _ e => (b2 x e).trans (a2 x e)) h.links, h.nodup⟩
  show updLen _ k _ k' = _
  rw [updLen, if_neg hk, h1.2.2.2, h0.2.2.2, h.len]

/-- A slot leaves the list. -/
theorem Thread.remove {X : Q} {k s : Nat} {A B : List Nat} (h : Thread X k (A ++ s :: B)) : Thread (unlinkQ X k s) k (A ++ B) := by
  have hnd := h.nodup
  obtain ⟨nA, nsB, ndis⟩ := List.nodup_append.1 hnd
  obtain ⟨nsB', nB⟩ := List.nodup_cons.1 nsB
  have nsA : s ∉ A := fun hm => ndis s hm s (by simp) rfl
  obtain ⟨e0, e1⟩ := h.ends (by simp)
  have hl := h.links
  rw [dl_append] at hl
  obtain ⟨hA, hs0, hs1, hB⟩ := hl
  rw [hd_cons] at hA
  have hlen := h.len
  -- the state behind the first round
  have first : ∃ Y, unlinkStep X k s 0 = Y ∧ Y.len = X.len ∧ Y.nb s 1 k = hd B (-1) ∧ Y.nb s 0 k = la A (-1) ∧ dl Y.nb k (-1) A (hd B (-1)) ∧ dl Y.nb k s B (-1) ∧ Y.en k 1 = X.en k 1 ∧ (A ++ B ≠ [] → Y.en k 0 = hd (A ++ B) (-1)) := by
    refine ⟨_, rfl, (unlinkStep_keeps X k s 0).2.2.2, ?_⟩
    unfold unlinkStep
    rcases nil_or_snoc A with rfl | ⟨A', z, rfl⟩
    · rw [if_pos (by rw [hs0]; simp)]
      refine ⟨hs1, hs0, trivial, hB, by simp [updEn], fun _ => ?_⟩
      simp [updEn, hs1]
    · rw [la_append_one] at hs0
      have hz : z ≠ s := fun e => nsA (by simp [e])
      rw [if_neg (by rw [hs0]; simp)]
      have hzn : (X.nb s 0 k).toNat = z := by rw [hs0]; simp
      rw [hzn]
      refine ⟨by simp [upd, hz.symm, hs1], by rw [la_append_one]; simp [upd, hz.symm, hs0], ?_, ?_, rfl, fun _ => ?_⟩
      · simp only [Nat.sub_zero]
        rw [hs1]
        exact dl_setLast nA hA
      · refine dl_congr (fun x hx d => ?_) hB
        have : x ≠ z := fun e => ndis z (by simp) z (by simp [← e, hx]) rfl
        simp [upd, this]
      · show X.en k 0 = _
        rw [e0, hd_append, hd_append, hd_append, hd_append]
        cases A' <;> rfl
  obtain ⟨Y, hY, yl, y1, y0, yA, yB, ye1, ye0⟩ := first
  unfold unlinkQ
  rw [hY]
  have y2 := unlinkStep_keeps Y k s 1
  refine ⟨?_, fun hne => ?_, ?_, ?_⟩
  · show updLen _ k _ k = _
    rw [updLen, if_pos rfl, y2.2.2.2, yl, hlen]
    simp
  · show (unlinkStep Y k s 1).en k 0 = _ ∧ (unlinkStep Y k s 1).en k 1 = _
    unfold unlinkStep
    rcases B with _ | ⟨z, B'⟩
    · rw [hd_nil] at y1
      rw [if_pos (by rw [y1]; simp)]
      refine ⟨?_, ?_⟩
      · simp only [updEn]
        rw [if_neg (by simp)]
        exact ye0 hne
      · simp [updEn, y0]
    · rw [hd_cons] at y1
      rw [if_neg (by rw [y1]; simp)]
      refine ⟨ye0 hne, ?_⟩
      show Y.en k 1 = _
      rw [ye1, e1, la_append, la_append, la_cons, la_cons, la_cons]
  · show dl (unlinkStep Y k s 1).nb k (-1) (A ++ B) (-1)
    unfold unlinkStep
    rcases B with _ | ⟨z, B'⟩
    · rw [hd_nil] at y1 yA
      rw [if_pos (by rw [y1]; simp)]
      simpa using yA
    · rw [hd_cons] at y1 yA
      have hzn : (Y.nb s 1 k).toNat = z := by rw [y1]; simp
      rw [if_neg (by rw [y1]; simp), hzn, dl_append]
      simp only [Nat.sub_self]
      rw [y0, hd_cons]
      refine ⟨dl_congr (fun x hx d => ?_) yA, dl_setHead (p := s) nB yB⟩
      have : x ≠ z := fun e => ndis z (e ▸ hx) z (by simp) rfl
      simp [upd, this]
  · rw [List.nodup_append]
    exact ⟨nA, nB, fun a ha b hb => ndis a ha b (by simp [hb])⟩

/-- Whom a slot of the list stands beside. -/
theorem dl_at {nb : Nat → Nat → Nat → Int} {k s : Nat} {A B : List Nat} {p q : Int} (h : dl nb k p (A ++ s :: B) q) : nb s 0 k = la A p ∧ nb s 1 k = hd B q := by
  rw [dl_append] at h
  exact ⟨h.2.1, h.2.2.1⟩
end Go.Proofs.Ybulkaraw

/-
  THE QUEUE AND THE REQUESTS IN THEIR ORDER, PLAIN.
-/
import Derived.Test.YbulkarawQueue
namespace Go.Proofs.Ybulkaraw

def zeroReq : Req := ⟨0, 0, 0, 0, 0, 0⟩

/-- The slot that a new request takes, and the queue that has given it. -/
def takeSlot (X : Q) : Nat := match X.free.getLast? with | some s => s | none => X.n
def taken (X : Q) : Q := match X.free.getLast? with
  | some _ => { X with free := X.free.dropLast }
  | none => { X with n := X.n + 1, rq := fun s => if s = X.n then zeroReq else X.rq s, nb := fun s d k => if s = X.n then 0 else X.nb s d k }
def held (X : Q) (s : Nat) (r : Req) : Q := { X with rq := fun s' => if s' = s then r else X.rq s' }
def sideOf (r : Req) : Nat := if r.key < 0 then 0 else 1

/-- 'push', plain. -/
def pushQ (X : Q) (r : Req) : Q :=
  let s := takeSlot X
  let Y := linkQ (held (taken X) s { r with slot := s }) 0 s (sideOf r)
  if r.want = 2 then linkQ Y 1 s (sideOf r) else Y

/-- 'remove', plain. -/
def removeQ (X : Q) (s : Nat) : Q :=
  let Y := unlinkQ X 0 s
  let Z := if (Y.rq s).want = 2 then unlinkQ Y 1 s else Y
  { Z with free := Z.free ++ [s] }

def slotsOf (m : List Req) : List Nat := m.map Req.slot
def exclusive (m : List Req) : List Req := m.filter fun r => decide (r.want = 2)

structure Inv (X : Q) (m : List Req) (c : Nat) : Prop where
  at' : ∀ r ∈ m, r.slot < X.n ∧ X.rq r.slot = r
  free : X.free.Nodup ∧ ∀ s ∈ X.free, s < X.n ∧ s ∉ slotsOf m
  keys : m.Pairwise fun a b => a.key < b.key
  range : ∀ r ∈ m, -(c : Int) ≤ r.key ∧ r.key < c
  every : Thread X 0 (slotsOf m)
  excl : Thread X 1 (slotsOf (exclusive m))
  sizes : X.free.length + m.length = X.n ∧ X.n ≤ c

theorem mem_slots {m : List Req} {s : Nat} : s ∈ slotsOf m ↔ ∃ r ∈ m, r.slot = s := by simp [slotsOf]
theorem excl_sub {m : List Req} {s : Nat} (h : s ∈ slotsOf (exclusive m)) : s ∈ slotsOf m := by
  rw [mem_slots] at h ⊢
  obtain ⟨r, hr, e⟩ := h
  exact ⟨r, (List.mem_filter.1 hr).1, e⟩

theorem Thread.of_same {X Y : Q} {k : Nat} {L : List Nat} (h : Thread X k L) (h1 : Y.len k = X.len k) (h2 : ∀ e, Y.en k e = X.en k e) (h3 : ∀ s ∈ L, ∀ e, Y.nb s e k = X.nb s e k) : Thread Y k L :=
  ⟨h1.trans h.len, fun hl => ⟨(h2 0).trans (h.ends hl).1, (h2 1).trans (h.ends hl).2⟩, dl_congr (fun s hs e => h3 s hs e) h.links, h.nodup⟩

/-- The slot that is taken is nobody's. -/
structure TakenOk (X T : Q) (s : Nat) (m : List Req) : Prop where
  lt : s < T.n
  new : s ∉ slotsOf m
  notFree : s ∉ T.free
  nodup : T.free.Nodup
  free : ∀ x ∈ T.free, x < T.n ∧ x ∉ slotsOf m
  same : ∀ x, x < X.n → T.rq x = X.rq x ∧ ∀ d k, T.nb x d k = X.nb x d k
  len : T.len = X.len
  en : T.en = X.en
  grows : X.n ≤ T.n ∧ T.n ≤ X.n + 1
  count : T.free.length + X.n + 1 = X.free.length + T.n

theorem Inv.takenOk {X : Q} {m : List Req} {c : Nat} (h : Inv X m c) : TakenOk X (taken X) (takeSlot X) m := by
  rcases nil_or_snoc X.free with h0 | ⟨A, z, h0⟩
  · have e1 : takeSlot X = X.n := by simp [takeSlot, h0]
    have e2 : taken X = { X with n := X.n + 1, rq := fun s => if s = X.n then zeroReq else X.rq s, nb := fun s d k => if s = X.n then 0 else X.nb s d k } := by simp [taken, h0]
    rw [e1, e2]
    refine ⟨Nat.lt_succ_self _, fun hm => ?_, by simp [h0], h.free.1, fun x hx => by simp [h0] at hx, fun x hx => ⟨by simp [Nat.ne_of_lt hx], fun d k => by simp [Nat.ne_of_lt hx]⟩, rfl, rfl, ⟨Nat.le_succ _, Nat.le_refl _⟩, by simp [h0]⟩
    obtain ⟨r, hr, e'⟩ := mem_slots.1 hm
    have := (h.at' r hr).1
    omega
  · have e1 : takeSlot X = z := by simp [takeSlot, h0]
    have e2 : taken X = { X with free := A } := by simp [taken, h0]
    rw [e1, e2]
    have hz := h.free.2 z (by simp [h0])
    have hnd := h.free.1
    rw [h0] at hnd
    obtain ⟨n1, n2, n3⟩ := List.nodup_append.1 hnd
    refine ⟨hz.1, hz.2, fun hm => n3 z hm z (by simp) rfl, n1, fun x hx => h.free.2 x (by simp [h0, hx]), fun x _ => ⟨rfl, fun _ _ => rfl⟩, rfl, rfl, ⟨Nat.le_refl _, Nat.le_succ _⟩, by simp [h0]; omega⟩

theorem pushQ_keeps (X : Q) (r : Req) : (pushQ X r).n = (taken X).n ∧ (pushQ X r).free = (taken X).free ∧ ∀ x, (pushQ X r).rq x = if x = takeSlot X then { r with slot := takeSlot X } else (taken X).rq x := by
  unfold pushQ
  have h1 := linkQ_keeps (held (taken X) (takeSlot X) { r with slot := takeSlot X }) 0 (takeSlot X) (sideOf r)
  have h2 := linkQ_keeps (linkQ (held (taken X) (takeSlot X) { r with slot := takeSlot X }) 0 (takeSlot X) (sideOf r)) 1 (takeSlot X) (sideOf r)
  simp only
  split
  · exact ⟨h2.1.trans h1.1, h2.2.2.trans h1.2.2, fun x => by rw [h2.2.1, h1.2.1]; rfl⟩
  · exact ⟨h1.1, h1.2.2, fun x => by rw [h1.2.1]; rfl⟩

/-- The threads behind a push: at the end 'd' the new slot. -/
theorem push_threads {X : Q} {m : List Req} {c : Nat} (h : Inv X m c) (r : Req) :
    Thread (pushQ X r) 0 (if sideOf r = 0 then takeSlot X :: slotsOf m else slotsOf m ++ [takeSlot X]) ∧
    Thread (pushQ X r) 1 (if r.want = 2 then (if sideOf r = 0 then takeSlot X :: slotsOf (exclusive m) else slotsOf (exclusive m) ++ [takeSlot X]) else slotsOf (exclusive m)) := by
  have ok := h.takenOk
  have hlt : ∀ x ∈ slotsOf m, x < X.n := fun x hx => by
    obtain ⟨r', hr', e⟩ := mem_slots.1 hx
    exact e ▸ (h.at' r' hr').1
  have t0 : Thread (held (taken X) (takeSlot X) { r with slot := takeSlot X }) 0 (slotsOf m) :=
    h.every.of_same (congrFun ok.len 0) (fun e => congrFun (congrFun ok.en 0) e) (fun s hs e => (ok.same s (hlt s hs)).2 e 0)
  have t1 : Thread (held (taken X) (takeSlot X) { r with slot := takeSlot X }) 1 (slotsOf (exclusive m)) :=
    h.excl.of_same (congrFun ok.len 1) (fun e => congrFun (congrFun ok.en 1) e) (fun s hs e => (ok.same s (hlt s (excl_sub hs))).2 e 1)
  have hn1 : takeSlot X ∉ slotsOf (exclusive m) := fun hm => ok.new (excl_sub hm)
  have hd : sideOf r = 0 ∨ sideOf r = 1 := by unfold sideOf; split <;> simp
  unfold pushQ
  simp only
  rcases hd with hd | hd
  · rw [hd]
    simp only [if_true]
    have a0 := t0.front ok.new
    have a1 : Thread (linkQ (held (taken X) (takeSlot X) { r with slot := takeSlot X }) 0 (takeSlot X) 0) 1 (slotsOf (exclusive m)) := t1.other (by decide)
    split
    · exact ⟨a0.other (by decide), a1.front hn1⟩
    · exact ⟨a0, a1⟩
  · rw [hd]
    simp only [Nat.one_ne_zero, if_false]
    have a0 := t0.back ok.new
    have a1 : Thread (linkQ (held (taken X) (takeSlot X) { r with slot := takeSlot X }) 0 (takeSlot X) 1) 1 (slotsOf (exclusive m)) := t1.other (by decide)
    split
    · exact ⟨a0.other (by decide), a1.back hn1⟩
    · exact ⟨a0, a1⟩

/-- What a push leaves, beside the order. -/
theorem push_rest {X : Q} {m : List Req} {c : Nat} (h : Inv X m c) (r : Req) (m' : List Req) (hm : ∀ x, x ∈ m' ↔ x = { r with slot := takeSlot X } ∨ x ∈ m) :
    (∀ x ∈ m', x.slot < (pushQ X r).n ∧ (pushQ X r).rq x.slot = x) ∧ ((pushQ X r).free.Nodup ∧ ∀ s ∈ (pushQ X r).free, s < (pushQ X r).n ∧ s ∉ slotsOf m') ∧ (pushQ X r).free.length + (m.length + 1) = (pushQ X r).n ∧ (pushQ X r).n ≤ c + 1 := by
  have ok := h.takenOk
  obtain ⟨k1, k2, k3⟩ := pushQ_keeps X r
  refine ⟨fun x hx => ?_, ⟨by rw [k2]; exact ok.nodup, fun s hs => ?_⟩, ?_, ?_⟩
  · rw [k1, k3]
    rcases (hm x).1 hx with rfl | hx
    · exact ⟨ok.lt, by simp⟩
    · have hh := h.at' x hx
      have hne : x.slot ≠ takeSlot X := fun e => ok.new (mem_slots.2 ⟨x, hx, e⟩)
      exact ⟨Nat.lt_of_lt_of_le hh.1 ok.grows.1, by rw [if_neg hne, (ok.same _ hh.1).1]; exact hh.2⟩
  · rw [k2] at hs
    rw [k1]
    refine ⟨(ok.free s hs).1, fun hms => ?_⟩
    obtain ⟨x, hx, e⟩ := mem_slots.1 hms
    rcases (hm x).1 hx with rfl | hx
    · exact ok.notFree (by simpa [← e] using hs)
    · exact (ok.free s hs).2 (mem_slots.2 ⟨x, hx, e⟩)
  · have := h.sizes.1
    have := ok.count
    rw [k1, k2]
    omega
  · have := h.sizes.2
    have := ok.grows.2
    omega

/-- A request joins at the back. -/
theorem Inv.pushBack {X : Q} {m : List Req} {c : Nat} (h : Inv X m c) (r : Req) (hk : r.key = c) : Inv (pushQ X r) (m ++ [{ r with slot := takeSlot X }]) (c + 1) := by
  have hs : sideOf r = 1 := by unfold sideOf; rw [if_neg (by omega)]
  obtain ⟨t0, t1⟩ := push_threads h r
  obtain ⟨r1, r2, r3, r4⟩ := push_rest h r (m ++ [{ r with slot := takeSlot X }]) (fun x => by simp [or_comm])
  rw [hs] at t0 t1
  simp only [Nat.one_ne_zero, if_false] at t0 t1
  refine ⟨r1, r2, ?_, fun x hx => ?_, by simpa [slotsOf] using t0, ?_, ⟨by simpa using r3, r4⟩⟩
  · rw [List.pairwise_append]
    refine ⟨h.keys, by simp, fun a ha b hb => ?_⟩
    simp at hb
    subst hb
    have := (h.range a ha).2
    simp [hk]
    omega
  · simp at hx
    rcases hx with hx | rfl
    · have := h.range x hx
      omega
    · simp [hk]
      omega
  · simp only [exclusive, List.filter_append] at t1 ⊢
    by_cases hw : r.want = 2
    · simpa [hw, slotsOf] using t1
    · simpa [hw, slotsOf] using t1

/-- A request joins at the front. -/
theorem Inv.pushFront {X : Q} {m : List Req} {c : Nat} (h : Inv X m c) (r : Req) (hk : r.key = -1 - c) : Inv (pushQ X r) ({ r with slot := takeSlot X } :: m) (c + 1) := by
  have hs : sideOf r = 0 := by unfold sideOf; rw [if_pos (by omega)]
  obtain ⟨t0, t1⟩ := push_threads h r
  obtain ⟨r1, r2, r3, r4⟩ := push_rest h r ({ r with slot := takeSlot X } :: m) (fun x => by simp)
  rw [hs] at t0 t1
  simp only [if_true] at t0 t1
  refine ⟨r1, r2, ?_, fun x hx => ?_, by simpa [slotsOf] using t0, ?_, ⟨by simpa using r3, r4⟩⟩
  · rw [List.pairwise_cons]
    refine ⟨fun b hb => ?_, h.keys⟩
    have := (h.range b hb).1
    simp [hk]
    omega
  · simp at hx
    rcases hx with rfl | hx
    · simp [hk]
      omega
    · have := h.range x hx
      omega
  · simp only [exclusive] at t1 ⊢
    by_cases hw : r.want = 2
    · simpa [hw, slotsOf] using t1
    · simpa [hw, slotsOf] using t1

/-- A request leaves. -/
theorem Inv.remove {X : Q} {A B : List Req} {r : Req} {c : Nat} (h : Inv X (A ++ r :: B) c) : Inv (removeQ X r.slot) (A ++ B) c := by
  have hr := h.at' r (by simp)
  obtain ⟨a1, a2, a3⟩ := unlinkQ_keeps X 0 r.slot
  obtain ⟨b1, b2, b3⟩ := unlinkQ_keeps (unlinkQ X 0 r.slot) 1 r.slot
  have hw : ((unlinkQ X 0 r.slot).rq r.slot).want = r.want := by rw [a2, hr.2]
  have hnd := h.every.nodup
  simp only [slotsOf, List.map_append, List.map_cons] at hnd
  obtain ⟨nA, nrB, ndis⟩ := List.nodup_append.1 hnd
  obtain ⟨nr, nB⟩ := List.nodup_cons.1 nrB
  have hout : r.slot ∉ slotsOf (A ++ B) := by
    intro hm
    simp only [slotsOf, List.map_append, List.mem_append] at hm
    rcases hm with hm | hm
    · exact ndis _ hm _ (by simp) rfl
    · exact nr hm
  have hsub : ∀ x, x ∈ A ++ B → x ∈ A ++ r :: B := fun x hx => by
    rcases List.mem_append.1 hx with hx | hx <;> simp [hx]
  have t0 : Thread (unlinkQ X 0 r.slot) 0 (slotsOf (A ++ B)) := by
    have := h.every
    simp only [slotsOf, List.map_append, List.map_cons] at this ⊢
    exact this.remove
  have t1 : Thread (unlinkQ X 0 r.slot) 1 (slotsOf (exclusive (A ++ r :: B))) := h.excl.unlinkOther (by decide)
  have key : ∀ Z : Q, Z.n = X.n → Z.rq = X.rq → Z.free = X.free → Thread Z 0 (slotsOf (A ++ B)) → Thread Z 1 (slotsOf (exclusive (A ++ B))) → Inv { Z with free := Z.free ++ [r.slot] } (A ++ B) c := by
    intro Z z1 z2 z3 z4 z5
    refine ⟨fun x hx => ?_, ⟨?_, fun s hs => ?_⟩, ?_, fun x hx => h.range x (hsub x hx), ⟨z4.len, z4.ends, z4.links, z4.nodup⟩, ⟨z5.len, z5.ends, z5.links, z5.nodup⟩, ?_⟩
    · have := h.at' x (hsub x hx)
      exact ⟨by show _ < Z.n; rw [z1]; exact this.1, by show Z.rq _ = _; rw [z2]; exact this.2⟩
    · show (Z.free ++ [r.slot]).Nodup
      rw [z3, List.nodup_append]
      refine ⟨h.free.1, by simp, fun a ha b hb e => ?_⟩
      simp at hb
      subst hb
      exact (h.free.2 a ha).2 (mem_slots.2 ⟨r, by simp, e.symm⟩)
    · have hs' : s ∈ X.free ∨ s = r.slot := by
        have : s ∈ Z.free ++ [r.slot] := hs
        rw [z3] at this
        simpa using this
      show s < Z.n ∧ _
      rw [z1]
      rcases hs' with hs' | rfl
      · obtain ⟨h1, h2⟩ := h.free.2 s hs'
        refine ⟨h1, fun hm => h2 ?_⟩
        obtain ⟨x, hx, e⟩ := mem_slots.1 hm
        exact mem_slots.2 ⟨x, hsub x hx, e⟩
      · exact ⟨hr.1, hout⟩
    · have := h.keys
      rw [List.pairwise_append, List.pairwise_cons] at this
      rw [List.pairwise_append]
      exact ⟨this.1, this.2.1.2, fun a ha b hb => this.2.2 a ha b (by simp [hb])⟩
    · show (Z.free ++ [r.slot]).length + (A ++ B).length = Z.n ∧ Z.n ≤ c
      have := h.sizes
      rw [z1, z3]
      simp at this ⊢
      omega
  unfold removeQ
  simp only
  split
  · rename_i hw2
    refine key _ (b1.trans a1) (b2.trans a2) (b3.trans a3) (t0.unlinkOther (by decide)) ?_
    have hr2 : r.want = 2 := hw ▸ hw2
    have e : slotsOf (exclusive (A ++ r :: B)) = slotsOf (exclusive A) ++ r.slot :: slotsOf (exclusive B) := by simp [exclusive, slotsOf, hr2]
    have e' : slotsOf (exclusive (A ++ B)) = slotsOf (exclusive A) ++ slotsOf (exclusive B) := by simp [exclusive, slotsOf]
    rw [e] at t1
    rw [e']
    exact t1.remove
  · rename_i hw2
    have hr2 : ¬ r.want = 2 := fun e => hw2 (hw.trans e)
    refine key _ a1 a2 a3 t0 ?_
    have e : exclusive (A ++ r :: B) = exclusive (A ++ B) := by simp [exclusive, hr2]
    rw [e] at t1
    exact t1

/-- The empty queue. -/
def emptyQ : Q := ⟨0, fun _ => zeroReq, fun _ _ _ => 0, [], fun _ => 0, fun _ _ => 0⟩

theorem Inv.start : Inv emptyQ [] 0 :=
  ⟨by simp, by simp [emptyQ], by simp, by simp, ⟨rfl, by simp [slotsOf], trivial, by simp [slotsOf]⟩, ⟨rfl, by simp [slotsOf, exclusive], trivial, by simp [slotsOf, exclusive]⟩, by simp [emptyQ]⟩

theorem Inv.wider {X : Q} {m : List Req} {c c' : Nat} (h : Inv X m c) (hc : c ≤ c') : Inv X m c' :=
  ⟨h.at', h.free, h.keys, fun r hr => by have := h.range r hr; omega, h.every, h.excl, ⟨h.sizes.1, by have := h.sizes.2; omega⟩⟩
end Go.Proofs.Ybulkaraw

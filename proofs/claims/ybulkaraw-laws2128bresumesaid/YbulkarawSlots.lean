/-
  THE QUEUE IN THE HEAP.
-/
import Derived.Test.YbulkarawInv
import Derived.WalkKit
import Derived.WalkSpells
import Derived.WalkLawsBesides
import Derived.OwnWalk
import Derived.Maps.AppendAt
import Derived.Deep.MidRow
import Derived.Deep.QuietTactic
import Derived.Deep.RegionWith
import Derived.BigQuiet
namespace Go.Proofs.Ybulkaraw
open Go.RowKit

abbrev N64 (x : Int) : Value := .int .i64 x

def scell (X : Q) (s c : Nat) : Value := match c with
  | 0 => N64 (X.rq s).txn
  | 1 => N64 (X.rq s).op
  | 2 => N64 (X.rq s).want
  | 3 => N64 (X.rq s).seq
  | 4 => N64 (X.rq s).key
  | 5 => N64 (X.rq s).slot
  | c + 6 => N64 (X.nb s (c / 2) (c % 2))

def qcells (X : Q) (sV fV : Value) : Array Value := #[sV, fV, N64 (X.len 0), N64 (X.en 0 0), N64 (X.en 0 1), N64 (X.len 1), N64 (X.en 1 0), N64 (X.en 1 1)]

structure QAt (base qb : Nat) (X : Q) (sV fV : Value) (W : World) : Prop where
  big : base ≤ qb
  blk : W.heap[qb]? = some (.cells (qcells X sV fV) 68 (0, 0))
  slots : ∃ xs, W.ownsRow base 79 10 sV X.n xs ∧ ∀ s, s < X.n → ∀ c, c < 10 → xs[s * 10 + c]? = some (scell X s c)
  free : W.ownsRow base 3 1 fV X.free.length (X.free.map fun s : Nat => N64 s)

/-! ### Small facts on worlds -/
theorem lt_of_some {w : World} {i : Nat} {o : Obj} (h : w.heap[i]? = some o) : i < w.heap.size := (Array.getElem?_eq_some_iff.1 h).1

theorem kept_at {w w' : World} {row : Option Nat} {i : Nat} {o : Obj} (hg : w.grownBy w' row) (h : w.heap[i]? = some o) (hne : some i ≠ row) : w'.heap[i]? = some o :=
  (hg.block i (lt_of_some h) hne).trans h

theorem row_ne {w : World} {base e size n j : Nat} {v : Value} {xs : List Value} {cur : Array Value} {t : TypeId} {fr : Nat × Nat} (h : w.ownsRow base e size v n xs) (hj : w.heap[j]? = some (.cells cur t fr)) (he : t ≠ e) : some j ≠ v.ownBlock := by
  intro e1
  rcases h.2 with ⟨rfl, _⟩ | ⟨g, cap, cur', rfl, _, h5, _⟩
  · simp [Value.ownBlock] at e1
  · simp [Value.ownBlock] at e1
    subst e1
    rw [hj] at h5
    simp at h5
    exact he h5.2.1

theorem rows_ne {w : World} {base e e' size size' n n' : Nat} {v v' : Value} {xs xs' : List Value} (h : w.ownsRow base e size v n xs) (h' : w.ownsRow base e' size' v' n' xs') (he : e' ≠ e) : v'.ownBlock = none ∨ v'.ownBlock ≠ v.ownBlock := by
  rcases h'.2 with ⟨rfl, _⟩ | ⟨g, cap, cur', rfl, _, h5, _⟩
  · exact .inl rfl
  · exact .inr (row_ne h h5 he)

theorem grown_setCell (w : World) (a : Addr) (v : Value) : w.grownBy (w.setCell a v) (some a.block) :=
  ⟨rfl, rfl, rfl, by simp [World.setCell], fun k _ hk => Below.heap_setCell w a v k (fun e => hk (by rw [e]))⟩

theorem setCell_block {w : World} {b o : Nat} {cs : Array Value} {t : TypeId} {fr : Nat × Nat} (h : w.heap[b]? = some (.cells cs t fr)) (v : Value) : (w.setCell ⟨b, o, none⟩ v).heap[b]? = some (.cells (cs.setIfInBounds o v) t fr) := by
  simp [World.setCell, Array.getElem?_modify, h]

/-- A store into a row of one's own. -/
theorem ownsRow_set {w : World} {base e size n g cap i : Nat} {xs : List Value} (h : w.ownsRow base e size (.slice (some ⟨g, 0, none⟩) n cap) n xs) (v : Value) : (w.setCell ⟨g, i, none⟩ v).ownsRow base e size (.slice (some ⟨g, 0, none⟩) n cap) n (xs.set i v) := by
  obtain ⟨h1, h2⟩ := h
  refine ⟨by simpa using h1, ?_⟩
  rcases h2 with ⟨h2, _⟩ | ⟨g', cap', cur, h2, h3, h4, h5, h6, h7, h8⟩
  · cases h2
  · injection h2 with e1 e2 e3
    injection e1 with e1
    injection e1 with e1
    subst e1 e3
    refine .inr ⟨g, cap, cur.setIfInBounds i v, rfl, h3, setCell_block h4 v, h5, h6, by simpa using h7, ?_⟩
    rw [Array.toList_setIfInBounds, ← h8, List.take_set]

/-- What lies in a row of one's own. -/
theorem ownsRow_cell {w : World} {base e size n g cap i : Nat} {xs : List Value} {u : Value} (h : w.ownsRow base e size (.slice (some ⟨g, 0, none⟩) n cap) n xs) (hi : xs[i]? = some u) : w.cell? ⟨g, i, none⟩ = some u := by
  have := h.cells (g := g) rfl i u hi
  rwa [Addr.add_mid, Nat.zero_add] at this

theorem ownsRow_frozen {w : World} {base e size n g cap : Nat} {xs : List Value} (h : w.ownsRow base e size (.slice (some ⟨g, 0, none⟩) n cap) n xs) (i : Nat) : w.frozen? ⟨g, i, none⟩ = false := by
  rcases h.2 with ⟨h2, _⟩ | ⟨g', cap', cur, h2, h3, h4, _⟩
  · cases h2
  · injection h2 with e1 e2 e3
    injection e1 with e1
    injection e1 with e1
    subst e1
    simp [World.frozen?, h4]

theorem ownsRow_block {w : World} {base e size n g cap : Nat} {xs : List Value} (h : w.ownsRow base e size (.slice (some ⟨g, 0, none⟩) n cap) n xs) : base ≤ g ∧ n ≤ cap ∧ ∃ cur, w.heap[g]? = some (.cells cur e (0, 0)) := by
  rcases h.2 with ⟨h2, _⟩ | ⟨g', cap', cur, h2, h3, h4, h5, _⟩
  · cases h2
  · injection h2 with e1 e2 e3
    injection e1 with e1
    injection e1 with e1
    subst e1 e3
    exact ⟨h3, h5, cur, h4⟩

theorem ownsRow_value {w : World} {base e size n : Nat} {v : Value} {xs : List Value} (h : w.ownsRow base e size v n xs) (hn : 0 < n) : ∃ g cap, v = .slice (some ⟨g, 0, none⟩) n cap := by
  rcases h.2 with ⟨_, h2⟩ | ⟨g, cap, cur, h1, _⟩
  · omega
  · exact ⟨g, cap, h1⟩

/-! ### The queue's cells -/
section
variable {base qb : Nat} {X : Q} {sV fV : Value} {W : World}

theorem QAt.c0 (h : QAt base qb X sV fV W) : W.cell? ⟨qb, 0, none⟩ = some sV := by simp [World.cell?, h.blk, qcells]
theorem QAt.c1 (h : QAt base qb X sV fV W) : W.cell? ⟨qb, 1, none⟩ = some fV := by simp [World.cell?, h.blk, qcells]
theorem QAt.len (h : QAt base qb X sV fV W) {k : Nat} (hk : k < 2) : W.cell? ⟨qb, 2 + k * 3, none⟩ = some (N64 (X.len k)) := by
  have : k = 0 ∨ k = 1 := by omega
  rcases this with rfl | rfl <;> simp [World.cell?, h.blk, qcells]
theorem QAt.en (h : QAt base qb X sV fV W) {k d : Nat} (hk : k < 2) (hd : d < 2) : W.cell? ⟨qb, 2 + k * 3 + 1 + d, none⟩ = some (N64 (X.en k d)) := by
  have hk' : k = 0 ∨ k = 1 := by omega
  have hd' : d = 0 ∨ d = 1 := by omega
  rcases hk' with rfl | rfl <;> rcases hd' with rfl | rfl <;> simp [World.cell?, h.blk, qcells]
theorem QAt.frozenQ (h : QAt base qb X sV fV W) (o : Nat) : W.frozen? ⟨qb, o, none⟩ = false := by simp [World.frozen?, h.blk]

theorem QAt.value (h : QAt base qb X sV fV W) (hn : 0 < X.n) : ∃ g cap, sV = .slice (some ⟨g, 0, none⟩) X.n cap := by
  obtain ⟨xs, h1, _⟩ := h.slots
  exact ownsRow_value h1 hn

theorem QAt.nb {g cap : Nat} (h : QAt base qb X (.slice (some ⟨g, 0, none⟩) X.n cap) fV W) {s d k : Nat} (hs : s < X.n) (hd : d < 2) (hk : k < 2) : W.cell? ⟨g, s * 10 + 6 + d * 2 + k, none⟩ = some (N64 (X.nb s d k)) := by
  obtain ⟨xs, h1, h2⟩ := h.slots
  have h3 := h2 s hs (d * 2 + k + 6) (by omega)
  rw [show s * 10 + (d * 2 + k + 6) = s * 10 + 6 + d * 2 + k by omega] at h3
  rw [ownsRow_cell h1 h3]
  simp only [scell]
  rw [show (d * 2 + k) / 2 = d by omega, show (d * 2 + k) % 2 = k by omega]

theorem QAt.frozenS {g cap : Nat} (h : QAt base qb X (.slice (some ⟨g, 0, none⟩) X.n cap) fV W) (o : Nat) : W.frozen? ⟨g, o, none⟩ = false := by
  obtain ⟨xs, h1, _⟩ := h.slots
  exact ownsRow_frozen h1 o

theorem QAt.rqc {g cap : Nat} (h : QAt base qb X (.slice (some ⟨g, 0, none⟩) X.n cap) fV W) {s c : Nat} (hs : s < X.n) (hc : c < 10) : W.cell? ⟨g, s * 10 + c, none⟩ = some (scell X s c) := by
  obtain ⟨xs, h1, h2⟩ := h.slots
  exact ownsRow_cell h1 (h2 s hs c hc)

/-- The slots lie apart from the queue's own block. -/
theorem QAt.ne {g cap : Nat} (h : QAt base qb X (.slice (some ⟨g, 0, none⟩) X.n cap) fV W) : g ≠ qb := by
  obtain ⟨xs, h1, _⟩ := h.slots
  intro e
  subst e
  exact row_ne h1 h.blk (by decide) rfl

/-- A neighbour is turned. -/
theorem QAt.setNb {g cap : Nat} (h : QAt base qb X (.slice (some ⟨g, 0, none⟩) X.n cap) fV W) {s d k : Nat} (hs : s < X.n) (hd : d < 2) (hk : k < 2) (v : Int) : QAt base qb { X with nb := upd X.nb s d k v } (.slice (some ⟨g, 0, none⟩) X.n cap) fV (W.setCell ⟨g, s * 10 + 6 + d * 2 + k, none⟩ (N64 v)) := by
  obtain ⟨xs, h1, h2⟩ := h.slots
  have hlen : xs.length = X.n * 10 := h1.1
  refine ⟨h.big, kept_at (grown_setCell W _ _) h.blk (by simpa using fun e => h.ne e.symm), ⟨_, ownsRow_set h1 _, fun s' hs' c hc => ?_⟩, h.free.kept (grown_setCell W _ _) ?_⟩
  · rw [List.getElem?_set]
    split
    · rename_i e
      rw [if_pos (by omega)]
      obtain rfl : s' = s := by omega
      obtain rfl : c = d * 2 + k + 6 := by omega
      simp only [scell, upd]
      rw [show (d * 2 + k) / 2 = d by omega, show (d * 2 + k) % 2 = k by omega]
      simp
    · rename_i e
      rw [h2 s' hs' c hc]
      congr 1
      unfold scell
      split <;> try rfl
      rename_i c
      simp only [upd]
      rw [if_neg (by intro hh; omega)]
  · exact rows_ne h1 h.free (by decide)

theorem QAt.setEn (h : QAt base qb X sV fV W) {k d : Nat} (hk : k < 2) (hd : d < 2) (v : Int) : QAt base qb { X with en := updEn X.en k d v } sV fV (W.setCell ⟨qb, 2 + k * 3 + 1 + d, none⟩ (N64 v)) := by
  obtain ⟨xs, h1, h2⟩ := h.slots
  refine ⟨h.big, ?_, ⟨xs, h1.kept (grown_setCell W _ _) ?_, h2⟩, h.free.kept (grown_setCell W _ _) ?_⟩
  · rw [setCell_block h.blk]
    have hk' : k = 0 ∨ k = 1 := by omega
    have hd' : d = 0 ∨ d = 1 := by omega
    rcases hk' with rfl | rfl <;> rcases hd' with rfl | rfl <;> simp [qcells, updEn]
  · exact .inr (fun e => row_ne h1 h.blk (by decide) e.symm)
  · exact .inr (fun e => row_ne h.free h.blk (by decide) e.symm)

theorem QAt.setLen (h : QAt base qb X sV fV W) {k : Nat} (hk : k < 2) (v : Nat) : QAt base qb { X with len := updLen X.len k v } sV fV (W.setCell ⟨qb, 2 + k * 3, none⟩ (N64 v)) := by
  obtain ⟨xs, h1, h2⟩ := h.slots
  refine ⟨h.big, ?_, ⟨xs, h1.kept (grown_setCell W _ _) ?_, h2⟩, h.free.kept (grown_setCell W _ _) ?_⟩
  · rw [setCell_block h.blk]
    have : k = 0 ∨ k = 1 := by omega
    rcases this with rfl | rfl <;> simp [qcells, updLen]
  · exact .inr (fun e => row_ne h1 h.blk (by decide) e.symm)
  · exact .inr (fun e => row_ne h.free h.blk (by decide) e.symm)

theorem QAt.drewN (h : QAt base qb X sV fV W) (q : Nat) : QAt base qb X sV fV (W.drewN q) := ⟨h.big, h.blk, h.slots, h.free⟩

theorem QAt.congr {Y : Q} (h : QAt base qb X sV fV W) (e : X = Y) : QAt base qb Y sV fV W := e ▸ h
end

/-! ### What a queue's method leaves alone: every block of another type -/
def Kept (W W' : World) : Prop := ∀ (j : Nat) (cur : Array Value) (t : TypeId) (fr : Nat × Nat), W.heap[j]? = some (.cells cur t fr) → t ≠ 68 → t ≠ 79 → t ≠ 3 → W'.heap[j]? = some (.cells cur t fr)

theorem Kept.refl (W : World) : Kept W W := fun _ _ _ _ h _ _ _ => h
theorem Kept.trans {A B C : World} (h : Kept A B) (k : Kept B C) : Kept A C := fun j cur t fr e h1 h2 h3 => k j cur t fr (h j cur t fr e h1 h2 h3) h1 h2 h3
theorem Kept.drewN {A B : World} (h : Kept A B) (q : Nat) : Kept A (B.drewN q) := h

theorem kept_set {W : World} {b o : Nat} {cs : Array Value} {t : TypeId} {fr : Nat × Nat} (hb : W.heap[b]? = some (.cells cs t fr)) (ht : t = 68 ∨ t = 79 ∨ t = 3) (v : Value) : Kept W (W.setCell ⟨b, o, none⟩ v) := by
  intro j cur t' fr' hj h1 h2 h3
  refine kept_at (grown_setCell W _ v) hj ?_
  intro e
  simp at e
  subst e
  rw [hb] at hj
  simp at hj
  obtain ⟨_, rfl, _⟩ := hj
  rcases ht with e | e | e
  · exact h1 e
  · exact h2 e
  · exact h3 e

theorem QAt.keptQ {base qb : Nat} {X : Q} {sV fV : Value} {W : World} (h : QAt base qb X sV fV W) (o : Nat) (v : Value) : Kept W (W.setCell ⟨qb, o, none⟩ v) := kept_set h.blk (.inl rfl) v

theorem QAt.keptS {base qb g n cap : Nat} {X : Q} {fV : Value} {W : World} (h : QAt base qb X (.slice (some ⟨g, 0, none⟩) n cap) fV W) (o : Nat) (v : Value) : Kept W (W.setCell ⟨g, o, none⟩ v) := by
  obtain ⟨xs, h1, _⟩ := h.slots
  rcases h1.2 with ⟨h2, _⟩ | ⟨g', cap', cur, h2, h3, h4, _⟩
  · cases h2
  · injection h2 with e1 e2 e3
    injection e1 with e1
    injection e1 with e1
    subst e1
    exact kept_set h4 (.inr (.inl rfl)) v
end Go.Proofs.Ybulkaraw

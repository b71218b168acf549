/-
  A ROUND OF 'zzs2128bbuild': what a push and the row's growth leave.
-/
import Derived.Test.YbulkarawRow
namespace Go.Proofs.Ybulkaraw
open Go.RowKit

/-- Behind 'r = q.push(r)'. -/
structure RP (base qb pb : Nat) (X' : Q) (m : List Req) (mv sV fV : Value) (wr : World) (r' : Req) (W : World) : Prop where
  q : QAt base qb X' sV fV W
  row : W.ownsRow base 60 6 mv m.length (reqCells m)
  blk : W.heap[pb]? = some (reqO r')
  below : Below base wr W
  size : base ≤ W.heap.size

theorem round_push {base qb c : Nat} {X : Q} {m : List Req} {mv sV fV : Value} {wr : World} (h : BAt base qb X m c mv sV fV wr) (hc : c < 1024) (o : Obj) (r r' : Req) (hr' : r' = { r with slot := takeSlot X }) :
    Calls Yba.prog 11 #[.pointer (some ⟨qb, 0, none⟩), reqV r] ((wr.alloc o).alloc (reqO r)) fun e w1 => e = .returned (reqV r') ∧ w1.heap[wr.heap.size + 1]? = some (reqO r) ∧ ∃ sV' fV', RP base qb (wr.heap.size + 1) (pushQ X r) m mv sV' fV' wr r' (resWorld w1 (wr.heap.size + 1) r') := by
  subst hr'
  have hs := h.size
  have hb0 : Below base wr ((wr.alloc o).alloc (reqO r)) := ((Below.refl base wr).alloc hs _).alloc (by simp; omega) _
  refine (push_spec base qb c X m r sV fV _ ((h.q.alloc o).alloc (reqO r)) h.inv hc (by simp; omega)).mono ?_
  rintro e w1 ⟨rfl, ⟨g', cap', fV', q'⟩, hb, hk⟩
  have hblk : w1.heap[wr.heap.size + 1]? = some (reqO r) := hk _ _ _ _ (two_new wr o (reqO r)).2 (by decide) (by decide) (by decide)
  refine ⟨rfl, hblk, _, fV', ⟨q'.res hblk _, ?_, res_block hblk, (hb0.trans hb).trans (res_below (by omega) _ _), ?_⟩⟩
  · refine ownsRow_res (hk.row ((h.row.alloc o).alloc (reqO r))) _ (fun e => ?_)
    have := (h.row.lt _ e).2
    omega
  · have h1 := (hb0.trans hb).size
    have h2 := (res_below (Nat.zero_le (wr.heap.size + 1)) w1 { r with slot := takeSlot X }).size
    omega

section
variable {base qb pb c : Nat} {X : Q} {m : List Req} {mv sV fV v3 : Value} {wr W w3 : World} {r r' : Req} {o : Obj}

theorem RP.back (h : RP base qb pb (pushQ X r) m mv sV fV wr r' W) (hI : Inv X m c) (hr' : r' = { r with slot := takeSlot X }) (hk : r.key = c) (hg : (W.alloc o).grownBy w3 mv.ownBlock) (hown : w3.ownsRow base 60 6 v3 (m.length + 1) (reqCells m ++ reqL r')) :
    BAt base qb (pushQ X r) (m ++ [r']) (c + 1) v3 sV fV w3 ∧ Below base wr w3 := by
  subst hr'
  have hs := h.size
  refine ⟨⟨(h.q.alloc o).rowGrown (h.row.alloc o) hg, hI.pushBack r hk, ?_, ?_⟩, ?_⟩
  · simpa [reqCells_append, reqCells] using hown
  · have := hg.size
    simp at this
    omega
  · exact (h.below.alloc hs _).grown hg (by simp; omega) (fun j e => (h.row.lt j e).1)

theorem ownsRow_one {w : World} {base b : Nat} (hb : b = w.heap.size) (hbs : base ≤ w.heap.size) (r : Req) : (w.alloc (reqO r)).ownsRow base 60 6 (.slice (some ⟨b, 0, none⟩) 1 1) 1 (reqL r) := by
  subst hb
  refine ⟨rfl, .inr ⟨w.heap.size, 1, #[N64 r.txn, N64 r.op, N64 r.want, N64 r.seq, N64 r.key, N64 r.slot], rfl, hbs, ?_, Nat.le_refl _, by unfold maxLen; omega, rfl, rfl⟩⟩
  show (w.heap.push _)[w.heap.size]? = _
  simp

theorem RP.front (h : RP base qb pb (pushQ X r) m mv sV fV wr r' W) (hI : Inv X m c) (hr' : r' = { r with slot := takeSlot X }) (hk : r.key = -1 - c) {b : Nat} (hb : b = W.heap.size) (hg : (W.alloc (reqO r')).grownBy w3 (some b)) (hown : w3.ownsRow base 60 6 v3 (1 + m.length) (reqL r' ++ reqCells m)) :
    BAt base qb (pushQ X r) (r' :: m) (c + 1) v3 sV fV w3 ∧ Below base wr w3 := by
  subst hb
  have hs := h.size
  have hone := ownsRow_one (w := W) rfl hs r'
  refine ⟨⟨(h.q.alloc (reqO r')).rowGrown hone hg, by rw [hr']; exact hI.pushFront r hk, ?_, ?_⟩, ?_⟩
  · rw [Nat.add_comm] at hown
    exact hown
  · have := hg.size
    simp at this
    omega
  · exact (h.below.alloc hs _).grown hg (by simp; omega) (fun j e => by cases e; exact hs)

theorem BAt.alloc (h : BAt base qb X m c mv sV fV wr) (o : Obj) : BAt base qb X m c mv sV fV (wr.alloc o) := ⟨h.q.alloc o, h.inv, h.row.alloc o, by have := h.size; simp; omega⟩

theorem BAt.wider {c' : Nat} (h : BAt base qb X m c mv sV fV wr) (hc : c ≤ c') : BAt base qb X m c' mv sV fV wr := ⟨h.q, h.inv.wider hc, h.row, h.size⟩
end
end Go.Proofs.Ybulkaraw

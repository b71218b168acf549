/-
  THE ITERATOR OF '(*queue).requests': its contract.
-/
import Derived.RangeFuncNested
import Derived.RangeFuncBound
import Derived.RangeFuncCalls
import Derived.RangeFuncLeaves
import Derived.RangeFuncBox
import Derived.Shelf.Abstract
import Derived.Shelf.RegionOpen
import Derived.WalkKit
import Derived.OwnWalkIn
import Derived.TacticsInMore
import Derived.LoopNIn
import Derived.LoopIn
import Derived.Sort.QuietIn
import Derived.BigRegionIn
import Derived.Test.YbulkarawSeq
import Derived.Test.YbulkarawRow
namespace Go.Proofs.Ybulkaraw
open Go.RowKit Go.Shelf

attribute [local go_sem] Oper.semAt_some

/-- What a round of the walk keeps. -/
def KpR (n₁ gb : Nat) (W W' : World) : Prop := ∀ j, j < n₁ → j ≠ gb → W'.heap[j]? = W.heap[j]?

theorem KpR.trans {n₁ gb : Nat} {A B C : World} (h : KpR n₁ gb A B) (k : KpR n₁ gb B C) : KpR n₁ gb A C := fun j h1 h2 => (k j h1 h2).trans (h j h1 h2)

theorem ownsRow_same {W W' : World} {base e size n : Nat} {v : Value} {xs : List Value} (h : W.ownsRow base e size v n xs) (hs : ∀ j, v.ownBlock = some j → W'.heap[j]? = W.heap[j]?) : W'.ownsRow base e size v n xs := by
  refine ⟨h.1, ?_⟩
  rcases h.2 with hn | ⟨g, cap, cur, rfl, h2, h3, h4⟩
  · exact .inl hn
  · exact .inr ⟨g, cap, cur, rfl, h2, (hs g rfl).trans h3, h4⟩

/-- What the iterator sees. -/
structure Seen (base qb nQ Bq : Nat) (X : Q) (sV fV : Value) (d k : Nat) (fr key : Int) (W : World) : Prop where
  q : QAt base qb X sV fV W
  lq : qb < nQ
  ls : ∀ j, sV.ownBlock = some j → j < nQ
  lf : ∀ j, fV.ownBlock = some j → j < nQ
  b0 : Boxed W Bq 48 (.pointer (some ⟨qb, 0, none⟩))
  b1 : Boxed W (Bq + 1) 52 (.int .i64 d)
  b2 : Boxed W (Bq + 2) 3 (.int .i64 k)
  b3 : Boxed W (Bq + 3) 3 (.int .i64 key)
  b4 : Boxed W (Bq + 4) 3 (.int .i64 fr)

section
variable {base qb nQ Bq n₁ gb : Nat} {X : Q} {sV fV : Value} {d k : Nat} {fr key : Int} {W W' : World}

theorem Seen.keep (h : Seen base qb nQ Bq X sV fV d k fr key W) (hk : KpR n₁ gb W W') (h1 : nQ ≤ gb) (h2 : gb < Bq) (h3 : Bq + 5 ≤ n₁) : Seen base qb nQ Bq X sV fV d k fr key W' := by
  have hq : ∀ j, j < nQ → W'.heap[j]? = W.heap[j]? := fun j hj => hk j (by omega) (by omega)
  obtain ⟨xs, x1, x2⟩ := h.q.slots
  refine ⟨⟨h.q.big, (hq _ h.lq).trans h.q.blk, ⟨xs, ownsRow_same x1 (fun j hj => hq j (h.ls j hj)), x2⟩, ownsRow_same h.q.free (fun j hj => hq j (h.lf j hj))⟩, h.lq, h.ls, h.lf, ?_, ?_, ?_, ?_, ?_⟩
  · exact (hk _ (by omega) (by omega)).trans h.b0
  · exact (hk _ (by omega) (by omega)).trans h.b1
  · exact (hk _ (by omega) (by omega)).trans h.b2
  · exact (hk _ (by omega) (by omega)).trans h.b3
  · exact (hk _ (by omega) (by omega)).trans h.b4

theorem Seen.drewN (h : Seen base qb nQ Bq X sV fV d k fr key W) (q : Nat) : Seen base qb nQ Bq X sV fV d k fr key (W.drewN q) := ⟨h.q.drewN q, h.lq, h.ls, h.lf, h.b0, h.b1, h.b2, h.b3, h.b4⟩

theorem Seen.alloc (h : Seen base qb nQ Bq X sV fV d k fr key W) (o : Obj) : Seen base qb nQ Bq X sV fV d k fr key (W.alloc o) := ⟨h.q.alloc o, h.lq, h.ls, h.lf, h.b0.alloc o, h.b1.alloc o, h.b2.alloc o, h.b3.alloc o, h.b4.alloc o⟩
end

/-! ### How many are still to come -/
theorem Chain.unique {X : Q} {d k : Nat} : ∀ {p : Int} {Y Z : List Req}, Chain X d k p Y → Chain X d k p Z → Y = Z
  | _, [], [], _, _ => rfl
  | _, [], z :: Z, h, ⟨h', _⟩ => by have h : _ = (-1 : Int) := h; omega
  | _, y :: Y, [], ⟨h', _⟩, h => by have h : _ = (-1 : Int) := h; omega
  | _, y :: Y, z :: Z, ⟨e1, _, e2, e3⟩, ⟨f1, _, f2, f3⟩ => by
    have e : y.slot = z.slot := by omega
    have e' : y = z := by rw [← e2, ← f2, e]
    subst e'
    rw [Chain.unique e3 f3]

open Classical in
noncomputable def leftC (X : Q) (d k : Nat) (v : Value) : Nat :=
  if h : ∃ r : Int × List Req, v = .int .i64 r.1 ∧ Chain X d k r.1 r.2 then (Classical.choose h).2.length else 0

theorem leftC_eq {X : Q} {d k : Nat} {p : Int} {Z : List Req} (h : Chain X d k p Z) : leftC X d k (.int .i64 p) = Z.length := by
  have hex : ∃ r : Int × List Req, Value.int .i64 p = .int .i64 r.1 ∧ Chain X d k r.1 r.2 := ⟨(p, Z), rfl, h⟩
  unfold leftC
  rw [dif_pos hex]
  obtain ⟨e, hl⟩ := Classical.choose_spec hex
  have e' : p = (Classical.choose hex).1 := by simpa using e
  rw [← e'] at hl
  rw [Chain.unique hl h]

abbrev encR (r : Req) : Array Value := #[.int .i64 r.slot, reqV r]

theorem opposite_in (F : Fence) (n : Nat) (h18 : F.fn 18) (hro : F.round = none) (d d' : Nat) (h : d + d' = 1) (w : World) : CallsIn F n Yba.prog 18 #[.int .i64 d] w fun e w' => e = .returned (.int .i64 d') ∧ w' = w := by
  have e : (1 : Int) - d = d' := by omega
  refine callsIn_of_wp Yba.func18 rfl h18 ?_ hro
  simp only [Yba.ntmps18, List.size_toArray, List.length_cons, List.length_nil, Nat.reduceAdd, Nat.reduceSub, Array.replicate_succ, Array.replicate_zero, List.push_toArray, List.append_toArray, List.nil_append, List.cons_append]
  gi_wp2
  go_ret
  exact ⟨rfl, rfl⟩

set_option maxRecDepth 100000 in
set_option maxHeartbeats 1600000 in
theorem iter_in0 (n : Nat) (hn : 1 ≤ n) (l base qb nQ Bq n₁ gb : Nat) (X : Q) (sV fV : Value) (k : Nat) (fr key p0 : Int) (Z : List Req)
    (hk : k < 2) (h1 : nQ ≤ gb) (h2 : gb < Bq) (h3 : Bq + 5 ≤ n₁)
    (hfr : (fr = -1 ∧ p0 = startOf X 0 k) ∨ ∃ s : Nat, fr = s ∧ s < X.n ∧ p0 = X.nb s 1 k) (hZ : Chain X 0 k p0 Z)
    (J Jx : List Req → World → Prop) (W : World) (hW : Seen base qb nQ Bq X sV fV 0 k fr key W) (hJ : AbidesFrom W.heap.size J)
    (hY : ∀ pre x W1, J pre W1 → pre.length < Z.length → YieldAt Fence.wide (n - 1) Yba.prog l (encR x) W1 fun e W' =>
      (e = .returned (.bool true) ∧ J (pre ++ [x]) W' ∧ KpR n₁ gb W1 W') ∨ (e = .returned (.bool false) ∧ Jx (pre ++ [x]) W'))
    (h0 : J [] W) :
    CallsIn Fence.wide n Yba.prog 17 #[.func (.yield l) #[] #[], .pointer (some ⟨Bq, 0, none⟩), .pointer (some ⟨Bq + 2, 0, none⟩), .pointer (some ⟨Bq + 1, 0, none⟩), .pointer (some ⟨Bq + 4, 0, none⟩), .pointer (some ⟨Bq + 3, 0, none⟩)] W fun e W' => (∃ v, e = .returned v) ∧
      ((∃ ys, ys = Z.takeWhile (onSide 0 key) ∧ J ys W') ∨ (∃ pre, True ∧ Jx pre W')) := by
  have e0 := hW.b0.cell
  have e1 : W.cell? ⟨Bq + 1, 0, none⟩ = some (.int .i64 0) := hW.b1.cell
  have e2 := hW.b2.cell
  have e3 := hW.b3.cell
  have e4 := hW.b4.cell
  have cl := hW.q.len hk
  have ce : W.cell? ⟨qb, 2 + k * 3 + 1, none⟩ = some (.int .i64 (X.en k 0)) := hW.q.en hk (d := 0) (by omega)
  have hop : ∀ W, CallsIn Fence.wide (n - 1) Yba.prog 18 #[.int .i64 0] W fun e w' => e = .returned (.int .i64 1) ∧ w' = W := fun W => opposite_in Fence.wide (n - 1) trivial rfl 0 1 rfl W
  have hfn : Fence.wide.fn 18 := trivial
  have hJd : ∀ (pre : List Req) (W1 : World) (q : Nat), J pre W1 → J pre (W1.drewN q) := fun pre W1 q hj => hJ pre W1 _ none hj ⟨rfl, rfl, rfl, Nat.le_refl _, fun _ _ _ => rfl⟩ (fun r e => by cases e)
  have hJa : ∀ (pre : List Req) (W1 : World) (o : Obj), J pre W1 → J pre (W1.alloc o) := fun pre W1 o hj => hJ pre W1 _ none hj (World.grownBy_alloc W1 o none) (fun r e => by cases e)
  refine callsIn_of_wp Yba.func17 rfl trivial ?_ rfl
  simp only [Yba.ntmps17, List.size_toArray, List.length_cons, List.length_nil, Nat.reduceAdd, Nat.reduceSub, Array.replicate_succ, Array.replicate_zero, List.push_toArray, List.append_toArray, List.nil_append, List.cons_append]
  gi_wp2
  gi_quiet (first | (gi_at_call 18; refine CallsIn.quiet_of_same (hop _)))
  gi_wp2
  gi_quiet (fail)
  rcases hfr with ⟨rfl, rfl⟩ | ⟨s, rfl, hs, rfl⟩
  · by_cases hl : X.len k = 0
    · rw [startOf, if_pos hl] at hZ
      have hlb : ((X.len k : Int) == 0) = true := by simp [hl]
      clear hl
      gi_wp2
      gi_loopw [9] (fun u wr => ∃ (pre rest : List Req) (p : Int), u = .int .i64 p ∧ Chain X 0 k p rest ∧ Z.takeWhile (onSide 0 key) = pre ++ rest.takeWhile (onSide 0 key) ∧ Seen base qb nQ Bq X sV fV 0 k (-1) key wr ∧ J pre wr) (fun u _ => leftC X 0 k u)
      case atStart => exact ⟨[], Z, _, rfl, hZ, rfl, hW.drewN _, hJd _ _ _ h0⟩
      case round =>
        obtain ⟨pre, rest, p, rfl, hch, htw, hS, hJs⟩ := hrel
        cases rest with
        | nil =>
          obtain rfl : p = -1 := hch
          gi_wp2
          go_end0
          exact ⟨⟨_, rfl⟩, .inl ⟨pre, by simpa using htw.symm, hJs⟩⟩
        | cons x rest =>
          have hch' := hch
          obtain ⟨rfl, hlt, hrq, hr⟩ := hch
          obtain ⟨g, cap, hsv⟩ := hS.q.value (Nat.lt_of_le_of_lt (Nat.zero_le _) hlt)
          have hS' := hS
          rw [hsv] at hS'
          have c0 := hS'.q.c0
          have f0 := hS.b0.cell
          have f1 := hS.b1.cell
          have f2 := hS.b2.cell
          have f3 := hS.b3.cell
          have g0 := hS.b0.lt
          have g1 := hS.b1.lt
          have g2 := hS.b2.lt
          have g3 := hS.b3.lt
          have r0 := hS'.q.rqc (s := x.slot) hlt (c := 0) (by omega)
          have r1 := hS'.q.rqc (s := x.slot) hlt (c := 1) (by omega)
          have r2 := hS'.q.rqc (s := x.slot) hlt (c := 2) (by omega)
          have r3 := hS'.q.rqc (s := x.slot) hlt (c := 3) (by omega)
          have r4 := hS'.q.rqc (s := x.slot) hlt (c := 4) (by omega)
          have r5 := hS'.q.rqc (s := x.slot) hlt (c := 5) (by omega)
          simp only [scell, hrq, Nat.add_zero] at r0 r1 r2 r3 r4 r5
          by_cases hon : x.key < key
          · have hons : onSide 0 key x = true := by simp [onSide, hon]
            have hlen : pre.length < Z.length := by
              have hp := (List.takeWhile_prefix (l := Z) (onSide 0 key)).length_le
              rw [htw, List.takeWhile_cons_of_pos hons] at hp
              simp at hp
              omega
            obtain ⟨fn, tmps, assign, body, hy, hR⟩ := hY pre x (wr.alloc (reqO x)) (hJa _ _ _ hJs) hlen
            gi_wp2
            refine hR.mono ?_
            rintro e W3 (⟨rfl, hJ3, hk3⟩ | ⟨rfl, hJx3⟩)
            · have hS3 := (hS.alloc (reqO x)).keep hk3 h1 h2 h3
              have hS3' := hS3
              rw [hsv] at hS3'
              have c0' := hS3'.q.c0
              have f0' := hS3.b0.cell
              have f2' := hS3.b2.cell
              have nb' := hS3'.q.nb (s := x.slot) (d := 1) (k := k) hlt (by omega) hk
              gi_wp2
              gi_quiet (fail)
              gi_wp2
              go_roundw
              case rel => exact ⟨pre ++ [x], rest, _, rfl, hr, by rw [htw, List.takeWhile_cons_of_pos hons]; simp, hS3.drewN _, hJd _ _ _ hJ3⟩
              case measure =>
                exact Nat.lt_of_le_of_lt (Nat.le_of_eq (leftC_eq hr)) (Nat.lt_of_lt_of_le (show rest.length < (x :: rest).length by simp) (Nat.le_of_eq (leftC_eq hch').symm))
            · gi_wp2
              refine bodyPost_ret (results_none rfl _ _ _) rfl ?_
              exact ⟨⟨_, rfl⟩, .inr ⟨pre ++ [x], trivial, hJx3⟩⟩
          · have hons : ¬ onSide 0 key x = true := by simp [onSide]; omega
            gi_wp2
            refine ⟨fun _ h => (by cases h), ?_⟩
            gi_wp2
            refine bodyPost_ret (results_none rfl _ _ _) rfl ?_
            exact ⟨⟨_, rfl⟩, .inl ⟨pre, by rw [htw, List.takeWhile_cons_of_neg hons, List.append_nil], hJa _ _ _ hJs⟩⟩
    · rw [startOf, if_neg hl] at hZ
      have hlb : ((X.len k : Int) == 0) = false := by simp; omega
      clear hl
      gi_wp2
      gi_loopw [9] (fun u wr => ∃ (pre rest : List Req) (p : Int), u = .int .i64 p ∧ Chain X 0 k p rest ∧ Z.takeWhile (onSide 0 key) = pre ++ rest.takeWhile (onSide 0 key) ∧ Seen base qb nQ Bq X sV fV 0 k (-1) key wr ∧ J pre wr) (fun u _ => leftC X 0 k u)
      case atStart => exact ⟨[], Z, _, rfl, hZ, rfl, hW.drewN _, hJd _ _ _ h0⟩
      case round =>
        obtain ⟨pre, rest, p, rfl, hch, htw, hS, hJs⟩ := hrel
        cases rest with
        | nil =>
          obtain rfl : p = -1 := hch
          gi_wp2
          go_end0
          exact ⟨⟨_, rfl⟩, .inl ⟨pre, by simpa using htw.symm, hJs⟩⟩
        | cons x rest =>
          have hch' := hch
          obtain ⟨rfl, hlt, hrq, hr⟩ := hch
          obtain ⟨g, cap, hsv⟩ := hS.q.value (Nat.lt_of_le_of_lt (Nat.zero_le _) hlt)
          have hS' := hS
          rw [hsv] at hS'
          have c0 := hS'.q.c0
          have f0 := hS.b0.cell
          have f1 := hS.b1.cell
          have f2 := hS.b2.cell
          have f3 := hS.b3.cell
          have g0 := hS.b0.lt
          have g1 := hS.b1.lt
          have g2 := hS.b2.lt
          have g3 := hS.b3.lt
          have r0 := hS'.q.rqc (s := x.slot) hlt (c := 0) (by omega)
          have r1 := hS'.q.rqc (s := x.slot) hlt (c := 1) (by omega)
          have r2 := hS'.q.rqc (s := x.slot) hlt (c := 2) (by omega)
          have r3 := hS'.q.rqc (s := x.slot) hlt (c := 3) (by omega)
          have r4 := hS'.q.rqc (s := x.slot) hlt (c := 4) (by omega)
          have r5 := hS'.q.rqc (s := x.slot) hlt (c := 5) (by omega)
          simp only [scell, hrq, Nat.add_zero] at r0 r1 r2 r3 r4 r5
          by_cases hon : x.key < key
          · have hons : onSide 0 key x = true := by simp [onSide, hon]
            have hlen : pre.length < Z.length := by
              have hp := (List.takeWhile_prefix (l := Z) (onSide 0 key)).length_le
              rw [htw, List.takeWhile_cons_of_pos hons] at hp
              simp at hp
              omega
            obtain ⟨fn, tmps, assign, body, hy, hR⟩ := hY pre x (wr.alloc (reqO x)) (hJa _ _ _ hJs) hlen
            gi_wp2
            refine hR.mono ?_
            rintro e W3 (⟨rfl, hJ3, hk3⟩ | ⟨rfl, hJx3⟩)
            · have hS3 := (hS.alloc (reqO x)).keep hk3 h1 h2 h3
              have hS3' := hS3
              rw [hsv] at hS3'
              have c0' := hS3'.q.c0
              have f0' := hS3.b0.cell
              have f2' := hS3.b2.cell
              have nb' := hS3'.q.nb (s := x.slot) (d := 1) (k := k) hlt (by omega) hk
              gi_wp2
              gi_quiet (fail)
              gi_wp2
              go_roundw
              case rel => exact ⟨pre ++ [x], rest, _, rfl, hr, by rw [htw, List.takeWhile_cons_of_pos hons]; simp, hS3.drewN _, hJd _ _ _ hJ3⟩
              case measure =>
                exact Nat.lt_of_le_of_lt (Nat.le_of_eq (leftC_eq hr)) (Nat.lt_of_lt_of_le (show rest.length < (x :: rest).length by simp) (Nat.le_of_eq (leftC_eq hch').symm))
            · gi_wp2
              refine bodyPost_ret (results_none rfl _ _ _) rfl ?_
              exact ⟨⟨_, rfl⟩, .inr ⟨pre ++ [x], trivial, hJx3⟩⟩
          · have hons : ¬ onSide 0 key x = true := by simp [onSide]; omega
            gi_wp2
            refine ⟨fun _ h => (by cases h), ?_⟩
            gi_wp2
            refine bodyPost_ret (results_none rfl _ _ _) rfl ?_
            exact ⟨⟨_, rfl⟩, .inl ⟨pre, by rw [htw, List.takeWhile_cons_of_neg hons, List.append_nil], hJa _ _ _ hJs⟩⟩
  · obtain ⟨g, cap, hsv⟩ := hW.q.value (Nat.lt_of_le_of_lt (Nat.zero_le _) hs)
    have hW' := hW
    rw [hsv] at hW'
    have c0 := hW'.q.c0
    have nb0 := hW'.q.nb (s := s) (d := 1) (k := k) hs (by omega) hk
    have hs0 : (0 : Int) ≤ s := by omega
    gi_wp2
    gi_quiet (fail)
    gi_wp2
    clear c0 nb0 hW' hsv
    gi_loopw [9] (fun u wr => ∃ (pre rest : List Req) (p : Int), u = .int .i64 p ∧ Chain X 0 k p rest ∧ Z.takeWhile (onSide 0 key) = pre ++ rest.takeWhile (onSide 0 key) ∧ Seen base qb nQ Bq X sV fV 0 k s key wr ∧ J pre wr) (fun u _ => leftC X 0 k u)
    case atStart => exact ⟨[], Z, _, rfl, hZ, rfl, (hW.drewN _).drewN _, hJd _ _ _ (hJd _ _ _ h0)⟩
    case round =>
      obtain ⟨pre, rest, p, rfl, hch, htw, hS, hJs⟩ := hrel
      cases rest with
      | nil =>
        obtain rfl : p = -1 := hch
        gi_wp2
        go_end0
        exact ⟨⟨_, rfl⟩, .inl ⟨pre, by simpa using htw.symm, hJs⟩⟩
      | cons x rest =>
        have hch' := hch
        obtain ⟨rfl, hlt, hrq, hr⟩ := hch
        obtain ⟨g, cap, hsv⟩ := hS.q.value (Nat.lt_of_le_of_lt (Nat.zero_le _) hlt)
        have hS' := hS
        rw [hsv] at hS'
        have c0 := hS'.q.c0
        have f0 := hS.b0.cell
        have f1 := hS.b1.cell
        have f2 := hS.b2.cell
        have f3 := hS.b3.cell
        have g0 := hS.b0.lt
        have g1 := hS.b1.lt
        have g2 := hS.b2.lt
        have g3 := hS.b3.lt
        have r0 := hS'.q.rqc (s := x.slot) hlt (c := 0) (by omega)
        have r1 := hS'.q.rqc (s := x.slot) hlt (c := 1) (by omega)
        have r2 := hS'.q.rqc (s := x.slot) hlt (c := 2) (by omega)
        have r3 := hS'.q.rqc (s := x.slot) hlt (c := 3) (by omega)
        have r4 := hS'.q.rqc (s := x.slot) hlt (c := 4) (by omega)
        have r5 := hS'.q.rqc (s := x.slot) hlt (c := 5) (by omega)
        simp only [scell, hrq, Nat.add_zero] at r0 r1 r2 r3 r4 r5
        by_cases hon : x.key < key
        · have hons : onSide 0 key x = true := by simp [onSide, hon]
          have hlen : pre.length < Z.length := by
            have hp := (List.takeWhile_prefix (l := Z) (onSide 0 key)).length_le
            rw [htw, List.takeWhile_cons_of_pos hons] at hp
            simp at hp
            omega
          obtain ⟨fn, tmps, assign, body, hy, hR⟩ := hY pre x (wr.alloc (reqO x)) (hJa _ _ _ hJs) hlen
          gi_wp2
          refine hR.mono ?_
          rintro e W3 (⟨rfl, hJ3, hk3⟩ | ⟨rfl, hJx3⟩)
          · have hS3 := (hS.alloc (reqO x)).keep hk3 h1 h2 h3
            have hS3' := hS3
            rw [hsv] at hS3'
            have c0' := hS3'.q.c0
            have f0' := hS3.b0.cell
            have f2' := hS3.b2.cell
            have nb' := hS3'.q.nb (s := x.slot) (d := 1) (k := k) hlt (by omega) hk
            gi_wp2
            gi_quiet (fail)
            gi_wp2
            go_roundw
            case rel => exact ⟨pre ++ [x], rest, _, rfl, hr, by rw [htw, List.takeWhile_cons_of_pos hons]; simp, hS3.drewN _, hJd _ _ _ hJ3⟩
            case measure =>
              exact Nat.lt_of_le_of_lt (Nat.le_of_eq (leftC_eq hr)) (Nat.lt_of_lt_of_le (show rest.length < (x :: rest).length by simp) (Nat.le_of_eq (leftC_eq hch').symm))
          · gi_wp2
            refine bodyPost_ret (results_none rfl _ _ _) rfl ?_
            exact ⟨⟨_, rfl⟩, .inr ⟨pre ++ [x], trivial, hJx3⟩⟩
        · have hons : ¬ onSide 0 key x = true := by simp [onSide]; omega
          gi_wp2
          refine ⟨fun _ h => (by cases h), ?_⟩
          gi_wp2
          refine bodyPost_ret (results_none rfl _ _ _) rfl ?_
          exact ⟨⟨_, rfl⟩, .inl ⟨pre, by rw [htw, List.takeWhile_cons_of_neg hons, List.append_nil], hJa _ _ _ hJs⟩⟩

set_option maxRecDepth 100000 in
set_option maxHeartbeats 1600000 in
theorem iter_in1 (n : Nat) (hn : 1 ≤ n) (l base qb nQ Bq n₁ gb : Nat) (X : Q) (sV fV : Value) (k : Nat) (fr key p0 : Int) (Z : List Req)
    (hk : k < 2) (h1 : nQ ≤ gb) (h2 : gb < Bq) (h3 : Bq + 5 ≤ n₁)
    (hfr : (fr = -1 ∧ p0 = startOf X 1 k) ∨ ∃ s : Nat, fr = s ∧ s < X.n ∧ p0 = X.nb s 0 k) (hZ : Chain X 1 k p0 Z)
    (J Jx : List Req → World → Prop) (W : World) (hW : Seen base qb nQ Bq X sV fV 1 k fr key W) (hJ : AbidesFrom W.heap.size J)
    (hY : ∀ pre x W1, J pre W1 → pre.length < Z.length → YieldAt Fence.wide (n - 1) Yba.prog l (encR x) W1 fun e W' =>
      (e = .returned (.bool true) ∧ J (pre ++ [x]) W' ∧ KpR n₁ gb W1 W') ∨ (e = .returned (.bool false) ∧ Jx (pre ++ [x]) W'))
    (h0 : J [] W) :
    CallsIn Fence.wide n Yba.prog 17 #[.func (.yield l) #[] #[], .pointer (some ⟨Bq, 0, none⟩), .pointer (some ⟨Bq + 2, 0, none⟩), .pointer (some ⟨Bq + 1, 0, none⟩), .pointer (some ⟨Bq + 4, 0, none⟩), .pointer (some ⟨Bq + 3, 0, none⟩)] W fun e W' => (∃ v, e = .returned v) ∧
      ((∃ ys, ys = Z.takeWhile (onSide 1 key) ∧ J ys W') ∨ (∃ pre, True ∧ Jx pre W')) := by
  have e0 := hW.b0.cell
  have e1 : W.cell? ⟨Bq + 1, 0, none⟩ = some (.int .i64 1) := hW.b1.cell
  have e2 := hW.b2.cell
  have e3 := hW.b3.cell
  have e4 := hW.b4.cell
  have cl := hW.q.len hk
  have ce : W.cell? ⟨qb, 2 + k * 3 + 1 + 1, none⟩ = some (.int .i64 (X.en k 1)) := hW.q.en hk (d := 1) (by omega)
  have hop : ∀ W, CallsIn Fence.wide (n - 1) Yba.prog 18 #[.int .i64 1] W fun e w' => e = .returned (.int .i64 0) ∧ w' = W := fun W => opposite_in Fence.wide (n - 1) trivial rfl 1 0 rfl W
  have hfn : Fence.wide.fn 18 := trivial
  have hJd : ∀ (pre : List Req) (W1 : World) (q : Nat), J pre W1 → J pre (W1.drewN q) := fun pre W1 q hj => hJ pre W1 _ none hj ⟨rfl, rfl, rfl, Nat.le_refl _, fun _ _ _ => rfl⟩ (fun r e => by cases e)
  have hJa : ∀ (pre : List Req) (W1 : World) (o : Obj), J pre W1 → J pre (W1.alloc o) := fun pre W1 o hj => hJ pre W1 _ none hj (World.grownBy_alloc W1 o none) (fun r e => by cases e)
  refine callsIn_of_wp Yba.func17 rfl trivial ?_ rfl
  simp only [Yba.ntmps17, List.size_toArray, List.length_cons, List.length_nil, Nat.reduceAdd, Nat.reduceSub, Array.replicate_succ, Array.replicate_zero, List.push_toArray, List.append_toArray, List.nil_append, List.cons_append]
  gi_wp2
  gi_quiet (first | (gi_at_call 18; refine CallsIn.quiet_of_same (hop _)))
  gi_wp2
  gi_quiet (fail)
  rcases hfr with ⟨rfl, rfl⟩ | ⟨s, rfl, hs, rfl⟩
  · by_cases hl : X.len k = 0
    · rw [startOf, if_pos hl] at hZ
      have hlb : ((X.len k : Int) == 0) = true := by simp [hl]
      clear hl
      gi_wp2
      gi_loopw [9] (fun u wr => ∃ (pre rest : List Req) (p : Int), u = .int .i64 p ∧ Chain X 1 k p rest ∧ Z.takeWhile (onSide 1 key) = pre ++ rest.takeWhile (onSide 1 key) ∧ Seen base qb nQ Bq X sV fV 1 k (-1) key wr ∧ J pre wr) (fun u _ => leftC X 1 k u)
      case atStart => exact ⟨[], Z, _, rfl, hZ, rfl, hW.drewN _, hJd _ _ _ h0⟩
      case round =>
        obtain ⟨pre, rest, p, rfl, hch, htw, hS, hJs⟩ := hrel
        cases rest with
        | nil =>
          obtain rfl : p = -1 := hch
          gi_wp2
          go_end0
          exact ⟨⟨_, rfl⟩, .inl ⟨pre, by simpa using htw.symm, hJs⟩⟩
        | cons x rest =>
          have hch' := hch
          obtain ⟨rfl, hlt, hrq, hr⟩ := hch
          obtain ⟨g, cap, hsv⟩ := hS.q.value (Nat.lt_of_le_of_lt (Nat.zero_le _) hlt)
          have hS' := hS
          rw [hsv] at hS'
          have c0 := hS'.q.c0
          have f0 := hS.b0.cell
          have f1 := hS.b1.cell
          have f2 := hS.b2.cell
          have f3 := hS.b3.cell
          have g0 := hS.b0.lt
          have g1 := hS.b1.lt
          have g2 := hS.b2.lt
          have g3 := hS.b3.lt
          have r0 := hS'.q.rqc (s := x.slot) hlt (c := 0) (by omega)
          have r1 := hS'.q.rqc (s := x.slot) hlt (c := 1) (by omega)
          have r2 := hS'.q.rqc (s := x.slot) hlt (c := 2) (by omega)
          have r3 := hS'.q.rqc (s := x.slot) hlt (c := 3) (by omega)
          have r4 := hS'.q.rqc (s := x.slot) hlt (c := 4) (by omega)
          have r5 := hS'.q.rqc (s := x.slot) hlt (c := 5) (by omega)
          simp only [scell, hrq, Nat.add_zero] at r0 r1 r2 r3 r4 r5
          by_cases hon : key < x.key
          · have hons : onSide 1 key x = true := by simp [onSide, hon]
            have hlen : pre.length < Z.length := by
              have hp := (List.takeWhile_prefix (l := Z) (onSide 1 key)).length_le
              rw [htw, List.takeWhile_cons_of_pos hons] at hp
              simp at hp
              omega
            obtain ⟨fn, tmps, assign, body, hy, hR⟩ := hY pre x (wr.alloc (reqO x)) (hJa _ _ _ hJs) hlen
            gi_wp2
            refine hR.mono ?_
            rintro e W3 (⟨rfl, hJ3, hk3⟩ | ⟨rfl, hJx3⟩)
            · have hS3 := (hS.alloc (reqO x)).keep hk3 h1 h2 h3
              have hS3' := hS3
              rw [hsv] at hS3'
              have c0' := hS3'.q.c0
              have f0' := hS3.b0.cell
              have f2' := hS3.b2.cell
              have nb' := hS3'.q.nb (s := x.slot) (d := 0) (k := k) hlt (by omega) hk
              gi_wp2
              gi_quiet (fail)
              gi_wp2
              go_roundw
              case rel => exact ⟨pre ++ [x], rest, _, rfl, hr, by rw [htw, List.takeWhile_cons_of_pos hons]; simp, hS3.drewN _, hJd _ _ _ hJ3⟩
              case measure =>
                exact Nat.lt_of_le_of_lt (Nat.le_of_eq (leftC_eq hr)) (Nat.lt_of_lt_of_le (show rest.length < (x :: rest).length by simp) (Nat.le_of_eq (leftC_eq hch').symm))
            · gi_wp2
              refine bodyPost_ret (results_none rfl _ _ _) rfl ?_
              exact ⟨⟨_, rfl⟩, .inr ⟨pre ++ [x], trivial, hJx3⟩⟩
          · have hons : ¬ onSide 1 key x = true := by simp [onSide]; omega
            gi_wp2
            refine ⟨fun _ h => (by cases h), ?_⟩
            gi_wp2
            refine bodyPost_ret (results_none rfl _ _ _) rfl ?_
            exact ⟨⟨_, rfl⟩, .inl ⟨pre, by rw [htw, List.takeWhile_cons_of_neg hons, List.append_nil], hJa _ _ _ hJs⟩⟩
    · rw [startOf, if_neg hl] at hZ
      have hlb : ((X.len k : Int) == 0) = false := by simp; omega
      clear hl
      gi_wp2
      gi_loopw [9] (fun u wr => ∃ (pre rest : List Req) (p : Int), u = .int .i64 p ∧ Chain X 1 k p rest ∧ Z.takeWhile (onSide 1 key) = pre ++ rest.takeWhile (onSide 1 key) ∧ Seen base qb nQ Bq X sV fV 1 k (-1) key wr ∧ J pre wr) (fun u _ => leftC X 1 k u)
      case atStart => exact ⟨[], Z, _, rfl, hZ, rfl, hW.drewN _, hJd _ _ _ h0⟩
      case round =>
        obtain ⟨pre, rest, p, rfl, hch, htw, hS, hJs⟩ := hrel
        cases rest with
        | nil =>
          obtain rfl : p = -1 := hch
          gi_wp2
          go_end0
          exact ⟨⟨_, rfl⟩, .inl ⟨pre, by simpa using htw.symm, hJs⟩⟩
        | cons x rest =>
          have hch' := hch
          obtain ⟨rfl, hlt, hrq, hr⟩ := hch
          obtain ⟨g, cap, hsv⟩ := hS.q.value (Nat.lt_of_le_of_lt (Nat.zero_le _) hlt)
          have hS' := hS
          rw [hsv] at hS'
          have c0 := hS'.q.c0
          have f0 := hS.b0.cell
          have f1 := hS.b1.cell
          have f2 := hS.b2.cell
          have f3 := hS.b3.cell
          have g0 := hS.b0.lt
          have g1 := hS.b1.lt
          have g2 := hS.b2.lt
          have g3 := hS.b3.lt
          have r0 := hS'.q.rqc (s := x.slot) hlt (c := 0) (by omega)
          have r1 := hS'.q.rqc (s := x.slot) hlt (c := 1) (by omega)
          have r2 := hS'.q.rqc (s := x.slot) hlt (c := 2) (by omega)
          have r3 := hS'.q.rqc (s := x.slot) hlt (c := 3) (by omega)
          have r4 := hS'.q.rqc (s := x.slot) hlt (c := 4) (by omega)
          have r5 := hS'.q.rqc (s := x.slot) hlt (c := 5) (by omega)
          simp only [scell, hrq, Nat.add_zero] at r0 r1 r2 r3 r4 r5
          by_cases hon : key < x.key
          · have hons : onSide 1 key x = true := by simp [onSide, hon]
            have hlen : pre.length < Z.length := by
              have hp := (List.takeWhile_prefix (l := Z) (onSide 1 key)).length_le
              rw [htw, List.takeWhile_cons_of_pos hons] at hp
              simp at hp
              omega
            obtain ⟨fn, tmps, assign, body, hy, hR⟩ := hY pre x (wr.alloc (reqO x)) (hJa _ _ _ hJs) hlen
            gi_wp2
            refine hR.mono ?_
            rintro e W3 (⟨rfl, hJ3, hk3⟩ | ⟨rfl, hJx3⟩)
            · have hS3 := (hS.alloc (reqO x)).keep hk3 h1 h2 h3
              have hS3' := hS3
              rw [hsv] at hS3'
              have c0' := hS3'.q.c0
              have f0' := hS3.b0.cell
              have f2' := hS3.b2.cell
              have nb' := hS3'.q.nb (s := x.slot) (d := 0) (k := k) hlt (by omega) hk
              gi_wp2
              gi_quiet (fail)
              gi_wp2
              go_roundw
              case rel => exact ⟨pre ++ [x], rest, _, rfl, hr, by rw [htw, List.takeWhile_cons_of_pos hons]; simp, hS3.drewN _, hJd _ _ _ hJ3⟩
              case measure =>
                exact Nat.lt_of_le_of_lt (Nat.le_of_eq (leftC_eq hr)) (Nat.lt_of_lt_of_le (show rest.length < (x :: rest).length by simp) (Nat.le_of_eq (leftC_eq hch').symm))
            · gi_wp2
              refine bodyPost_ret (results_none rfl _ _ _) rfl ?_
              exact ⟨⟨_, rfl⟩, .inr ⟨pre ++ [x], trivial, hJx3⟩⟩
          · have hons : ¬ onSide 1 key x = true := by simp [onSide]; omega
            gi_wp2
            refine ⟨fun _ h => (by cases h), ?_⟩
            gi_wp2
            refine bodyPost_ret (results_none rfl _ _ _) rfl ?_
            exact ⟨⟨_, rfl⟩, .inl ⟨pre, by rw [htw, List.takeWhile_cons_of_neg hons, List.append_nil], hJa _ _ _ hJs⟩⟩
  · obtain ⟨g, cap, hsv⟩ := hW.q.value (Nat.lt_of_le_of_lt (Nat.zero_le _) hs)
    have hW' := hW
    rw [hsv] at hW'
    have c0 := hW'.q.c0
    have nb0 := hW'.q.nb (s := s) (d := 0) (k := k) hs (by omega) hk
    have hs0 : (0 : Int) ≤ s := by omega
    gi_wp2
    gi_quiet (fail)
    gi_wp2
    clear c0 nb0 hW' hsv
    gi_loopw [9] (fun u wr => ∃ (pre rest : List Req) (p : Int), u = .int .i64 p ∧ Chain X 1 k p rest ∧ Z.takeWhile (onSide 1 key) = pre ++ rest.takeWhile (onSide 1 key) ∧ Seen base qb nQ Bq X sV fV 1 k s key wr ∧ J pre wr) (fun u _ => leftC X 1 k u)
    case atStart => exact ⟨[], Z, _, rfl, hZ, rfl, (hW.drewN _).drewN _, hJd _ _ _ (hJd _ _ _ h0)⟩
    case round =>
      obtain ⟨pre, rest, p, rfl, hch, htw, hS, hJs⟩ := hrel
      cases rest with
      | nil =>
        obtain rfl : p = -1 := hch
        gi_wp2
        go_end0
        exact ⟨⟨_, rfl⟩, .inl ⟨pre, by simpa using htw.symm, hJs⟩⟩
      | cons x rest =>
        have hch' := hch
        obtain ⟨rfl, hlt, hrq, hr⟩ := hch
        obtain ⟨g, cap, hsv⟩ := hS.q.value (Nat.lt_of_le_of_lt (Nat.zero_le _) hlt)
        have hS' := hS
        rw [hsv] at hS'
        have c0 := hS'.q.c0
        have f0 := hS.b0.cell
        have f1 := hS.b1.cell
        have f2 := hS.b2.cell
        have f3 := hS.b3.cell
        have g0 := hS.b0.lt
        have g1 := hS.b1.lt
        have g2 := hS.b2.lt
        have g3 := hS.b3.lt
        have r0 := hS'.q.rqc (s := x.slot) hlt (c := 0) (by omega)
        have r1 := hS'.q.rqc (s := x.slot) hlt (c := 1) (by omega)
        have r2 := hS'.q.rqc (s := x.slot) hlt (c := 2) (by omega)
        have r3 := hS'.q.rqc (s := x.slot) hlt (c := 3) (by omega)
        have r4 := hS'.q.rqc (s := x.slot) hlt (c := 4) (by omega)
        have r5 := hS'.q.rqc (s := x.slot) hlt (c := 5) (by omega)
        simp only [scell, hrq, Nat.add_zero] at r0 r1 r2 r3 r4 r5
        by_cases hon : key < x.key
        · have hons : onSide 1 key x = true := by simp [onSide, hon]
          have hlen : pre.length < Z.length := by
            have hp := (List.takeWhile_prefix (l := Z) (onSide 1 key)).length_le
            rw [htw, List.takeWhile_cons_of_pos hons] at hp
            simp at hp
            omega
          obtain ⟨fn, tmps, assign, body, hy, hR⟩ := hY pre x (wr.alloc (reqO x)) (hJa _ _ _ hJs) hlen
          gi_wp2
          refine hR.mono ?_
          rintro e W3 (⟨rfl, hJ3, hk3⟩ | ⟨rfl, hJx3⟩)
          · have hS3 := (hS.alloc (reqO x)).keep hk3 h1 h2 h3
            have hS3' := hS3
            rw [hsv] at hS3'
            have c0' := hS3'.q.c0
            have f0' := hS3.b0.cell
            have f2' := hS3.b2.cell
            have nb' := hS3'.q.nb (s := x.slot) (d := 0) (k := k) hlt (by omega) hk
            gi_wp2
            gi_quiet (fail)
            gi_wp2
            go_roundw
            case rel => exact ⟨pre ++ [x], rest, _, rfl, hr, by rw [htw, List.takeWhile_cons_of_pos hons]; simp, hS3.drewN _, hJd _ _ _ hJ3⟩
            case measure =>
              exact Nat.lt_of_le_of_lt (Nat.le_of_eq (leftC_eq hr)) (Nat.lt_of_lt_of_le (show rest.length < (x :: rest).length by simp) (Nat.le_of_eq (leftC_eq hch').symm))
          · gi_wp2
            refine bodyPost_ret (results_none rfl _ _ _) rfl ?_
            exact ⟨⟨_, rfl⟩, .inr ⟨pre ++ [x], trivial, hJx3⟩⟩
        · have hons : ¬ onSide 1 key x = true := by simp [onSide]; omega
          gi_wp2
          refine ⟨fun _ h => (by cases h), ?_⟩
          gi_wp2
          refine bodyPost_ret (results_none rfl _ _ _) rfl ?_
          exact ⟨⟨_, rfl⟩, .inl ⟨pre, by rw [htw, List.takeWhile_cons_of_neg hons, List.append_nil], hJa _ _ _ hJs⟩⟩

end Go.Proofs.Ybulkaraw

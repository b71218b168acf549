/-
  THE CONTRACT OF 'zzs2128bwalk'.
-/
import Derived.Test.YbulkarawIter
import Derived.Maps.AppendAt
import Derived.Maps.OwnIn
namespace Go.Proofs.Ybulkaraw
open Go.RowKit Go.Shelf

attribute [local go_sem] Oper.semAt_some

/-- '(*queue).requests': its five arguments are boxed. -/
def boxedWorld (w : World) (qb d k : Nat) (fr key : Int) : World :=
  ((((w.alloc (.cells #[.pointer (some ⟨qb, 0, none⟩)] 48)).alloc (.cells #[.int .i64 d] 52)).alloc (.cells #[.int .i64 k] 3)).alloc (.cells #[.int .i64 key] 3)).alloc (.cells #[.int .i64 fr] 3)

set_option maxHeartbeats 1000000 in
theorem requests_in (n qb d k : Nat) (fr key : Int) (w : World) :
    CallsIn Fence.wide n Yba.prog 14 #[.pointer (some ⟨qb, 0, none⟩), .int .i64 d, .int .i64 k, .int .i64 key, .int .i64 fr] w fun e w' => e = .returned (.func (.func 17) #[] #[.pointer (some ⟨w.heap.size, 0, none⟩), .pointer (some ⟨w.heap.size + 2, 0, none⟩), .pointer (some ⟨w.heap.size + 1, 0, none⟩), .pointer (some ⟨w.heap.size + 4, 0, none⟩), .pointer (some ⟨w.heap.size + 3, 0, none⟩)]) ∧ w' = boxedWorld w qb d k fr key := by
  refine callsIn_of_wp Yba.func14 rfl trivial ?_ rfl
  simp only [Yba.ntmps14, List.size_toArray, List.length_cons, List.length_nil, Nat.reduceAdd, Nat.reduceSub, Array.replicate_succ, Array.replicate_zero, List.push_toArray, List.append_toArray, List.nil_append, List.cons_append]
  gi_wp2
  go_ret
  exact ⟨rfl, rfl⟩

theorem block_own {B b : Nat} {cs : Array Value} {t : TypeId} {fr : Nat × Nat} {W W' : World} {row : Option Nat} (h : W.heap[b]? = some (.cells cs t fr)) (hg : W.grownBy W' row) (hr : ∀ r, row = some r → B ≤ r ∧ ∃ o : Obj, W.heap[r]? = some o ∧ o.isCells = false) : W'.heap[b]? = some (.cells cs t fr) := by
  refine kept_at hg h (fun e => ?_)
  obtain ⟨_, o, ho, hc⟩ := hr b e.symm
  rw [h] at ho
  cases ho
  cases hc

theorem row_mono {W : World} {base base' e size n : Nat} {v : Value} {xs : List Value} (h : W.ownsRow base e size v n xs) (hb : base' ≤ base) : W.ownsRow base' e size v n xs :=
  ⟨h.1, h.2.imp id fun ⟨g, cap, cur, h1, h2, h3⟩ => ⟨g, cap, cur, h1, Nat.le_trans hb h2, h3⟩⟩

theorem KpR.alloc {n₁ gb : Nat} {W : World} (h : n₁ ≤ W.heap.size) (o : Obj) : KpR n₁ gb W (W.alloc o) := fun j hj _ => Below.heap_alloc W o j (by omega)

theorem KpR.collected {n₁ gb size k : Nat} {W w1 : World} {v v' : Value} {xs : List Value} {tmp : Obj} (hn : n₁ ≤ W.heap.size) (hrow : W.ownsRow n₁ 60 size v k xs) (hg : (W.alloc tmp).grownBy w1 v.ownBlock) : KpR n₁ gb W (w1.setCell ⟨gb, 0, none⟩ v') := by
  intro j hj hne
  rw [Below.heap_setCell _ _ _ _ hne, hg.block j (by simp; omega) (fun e => by have := (hrow.lt j e.symm).1; omega)]
  exact Below.heap_alloc W tmp j (by omega)

theorem KpR.putObj {n₁ gb : Nat} {w : World} (h : n₁ ≤ w.heap.size) (W : World) (l : Nat) (o o' : Obj) (hl : w.heap.size ≤ l) (_ : W.heap[l]? = some o) (_ : o.isCells = false) (_ : o.isWalk = false) : KpR n₁ gb W (W.putObj l o') := fun j hj _ => World.putObj_heap_other (by omega)

theorem push_at_old {xs : Array Obj} {o : Obj} {j : Nat} (h : j < xs.size) : (xs.push o)[j]? = xs[j]? := by rw [Array.getElem?_push, if_neg (by omega)]
theorem push_at_new {xs : Array Obj} {o : Obj} {j : Nat} (h : j = xs.size) : (xs.push o)[j]? = some o := by rw [Array.getElem?_push, if_pos h]

/-- Where the loop begins. -/
theorem seen_start {base qb : Nat} {X : Q} {sV fV : Value} {w : World} (hq : QAt base qb X sV fV w) (d k : Nat) (fr key : Int) (o1 o2 o3 o4 : Obj) :
    Seen base qb w.heap.size (w.heap.size + 4) X sV fV d k fr key (boxedWorld ((((w.alloc o1).alloc o2).alloc o3).alloc o4) qb d k fr key) := by
  obtain ⟨xs, x1, _⟩ := hq.slots
  refine ⟨((((((((hq.alloc _).alloc _).alloc _).alloc _).alloc _).alloc _).alloc _).alloc _).alloc _, lt_of_some hq.blk, fun j e => (x1.lt j e).2, fun j e => (hq.free.lt j e).2, ?_, ?_, ?_, ?_, ?_⟩
  all_goals
    show (((((((((w.heap.push o1).push o2).push o3).push o4).push _).push _).push _).push _).push _)[_]? = _
    repeat (first | exact push_at_new (by first | rfl | simp) | rw [push_at_old (by simp only [Array.size_push]; omega)])

theorem box_start (w : World) (o1 o2 o3 o4 : Obj) (qb d k : Nat) (fr key : Int) : (boxedWorld ((((w.alloc o1).alloc o2).alloc o3).alloc o4) qb d k fr key).heap.size = w.heap.size + 9 ∧ (boxedWorld ((((w.alloc o1).alloc o2).alloc o3).alloc o4) qb d k fr key).heap[w.heap.size]? = some o1 ∧ (boxedWorld ((((w.alloc o1).alloc o2).alloc o3).alloc o4) qb d k fr key).heap[w.heap.size + 1]? = some o2 ∧ (boxedWorld ((((w.alloc o1).alloc o2).alloc o3).alloc o4) qb d k fr key).heap[w.heap.size + 1 + 1]? = some o3 ∧ (boxedWorld ((((w.alloc o1).alloc o2).alloc o3).alloc o4) qb d k fr key).heap[w.heap.size + 1 + 1 + 1]? = some o4 ∧ Below w.heap.size w (boxedWorld ((((w.alloc o1).alloc o2).alloc o3).alloc o4) qb d k fr key) := by
  refine ⟨by simp [boxedWorld], ?_, ?_, ?_, ?_, ?_⟩
  · show (((((((((w.heap.push o1).push o2).push o3).push o4).push _).push _).push _).push _).push _)[_]? = _
    repeat (first | exact push_at_new (by first | rfl | simp) | rw [push_at_old (by simp only [Array.size_push]; omega)])
  · show (((((((((w.heap.push o1).push o2).push o3).push o4).push _).push _).push _).push _).push _)[_]? = _
    repeat (first | exact push_at_new (by first | rfl | simp) | rw [push_at_old (by simp only [Array.size_push]; omega)])
  · show (((((((((w.heap.push o1).push o2).push o3).push o4).push _).push _).push _).push _).push _)[_]? = _
    repeat (first | exact push_at_new (by first | rfl | simp) | rw [push_at_old (by simp only [Array.size_push]; omega)])
  · show (((((((((w.heap.push o1).push o2).push o3).push o4).push _).push _).push _).push _).push _)[_]? = _
    repeat (first | exact push_at_new (by first | rfl | simp) | rw [push_at_old (by simp only [Array.size_push]; omega)])
  · unfold boxedWorld
    refine ((((((((((Below.refl _ w).alloc ?_ _).alloc ?_ _).alloc ?_ _).alloc ?_ _).alloc ?_ _).alloc ?_ _).alloc ?_ _).alloc ?_ _).alloc ?_ _)
    all_goals (first | omega | (simp only [World.size_alloc]; omega))

theorem results_two (tmps : Array Value) (w : World) (a b : Nat) (v u : Value) (h10 : tmps.getD 10 undef = .pointer (some ⟨a, 0, none⟩)) (h11 : tmps.getD 11 undef = .pointer (some ⟨b, 0, none⟩)) (ha : w.cell? ⟨a, 0, none⟩ = some v) (hb : w.cell? ⟨b, 0, none⟩ = some u) :
    (results Yba.f8 tmps).run Yba.prog w = .ok (.tuple #[v, u]) w := by
  have hr : Yba.f8.results = #[.cell 10 49, .cell 11 4] := rfl
  have h10' : tmps[10]?.getD undef = .pointer (some ⟨a, 0, none⟩) := by simpa using h10
  have h11' : tmps[11]?.getD undef = .pointer (some ⟨b, 0, none⟩) := by simpa using h11
  simp only [results, hr]
  simp [Sem.run_bind, Result.andThen, asAddr, h10', h11', go_sem, ha, hb]

theorem iter_stops (n : Nat) (hn : 1 ≤ n) (base qb nQ Bq n₁ gb d k : Nat) (X : Q) (sV fV : Value) (fr key p0 : Int) (Z : List Req) (W0 : World) (hS : Seen base qb nQ Bq X sV fV d k fr key W0) (hn₁ : n₁ = W0.heap.size) (hd : d < 2) (hk : k < 2) (h1 : nQ ≤ gb) (h2 : gb < Bq) (h3 : Bq + 5 ≤ n₁)
    (hfr : (fr = -1 ∧ p0 = startOf X d k) ∨ ∃ s : Nat, fr = s ∧ s < X.n ∧ p0 = X.nb s (1 - d) k) (hZ : Chain X d k p0 Z) :
    SeqStopsK Fence.wide n Yba.prog 17 #[.pointer (some ⟨Bq, 0, none⟩), .pointer (some ⟨Bq + 2, 0, none⟩), .pointer (some ⟨Bq + 1, 0, none⟩), .pointer (some ⟨Bq + 4, 0, none⟩), .pointer (some ⟨Bq + 3, 0, none⟩)] encR (KpR n₁ gb) (fun ys => ys = Z.takeWhile (onSide d key)) (fun _ => True) Z.length W0 := by
  intro l J Jx W hB hJ hJx hY h0
  have hS' : Seen base qb nQ Bq X sV fV d k fr key W := hS.keep (n₁ := n₁) (gb := gb) (fun j hj _ => hB.block j (by omega)) h1 h2 h3
  have : d = 0 ∨ d = 1 := by omega
  rcases this with rfl | rfl
  · exact iter_in0 n hn l base qb nQ Bq n₁ gb X sV fV k fr key p0 Z hk h1 h2 h3 hfr hZ J Jx W hS' hJ hY h0
  · exact iter_in1 n hn l base qb nQ Bq n₁ gb X sV fV k fr key p0 Z hk h1 h2 h3 hfr hZ J Jx W hS' hJ hY h0

set_option maxRecDepth 100000 in
set_option maxHeartbeats 2000000 in
theorem walk_spec (base qb d k : Nat) (X : Q) (sV fV : Value) (fr key p0 : Int) (Z : List Req) (w : World) (hq : QAt base qb X sV fV w) (hd : d < 2) (hk : k < 2)
    (hfr : (fr = -1 ∧ p0 = startOf X d k) ∨ ∃ s : Nat, fr = s ∧ s < X.n ∧ p0 = X.nb s (1 - d) k) (hZ : Chain X d k p0 Z) (hZn : Z.length ≤ 1024) :
    Calls Yba.prog 8 #[.pointer (some ⟨qb, 0, none⟩), .int .i64 d, .int .i64 k, .int .i64 key, .int .i64 fr] w fun e w' => ∃ v, e = .returned (.tuple #[v, .bool true]) ∧ w'.ownsRow w.heap.size 60 6 v (Z.takeWhile (onSide d key)).length (reqCells (Z.takeWhile (onSide d key))) ∧ Below w.heap.size w w' := by
  refine (callsIn_wide (n := 6)).1 ?_
  obtain ⟨i0, hi, hz0, hz1, hz2⟩ := info_parts Yba.info60
  have hf14 : Fence.wide.fn 14 := trivial
  have hS := seen_start hq d k fr key (.cells #[.slice none 0 0] 49) (.cells #[.bool false] 4) (.cells #[.slice none 0 0] 49) (.cells #[.bool true] 4)
  refine callsIn_of_wp_marks Yba.func8 rfl trivial ?_ rfl
  simp only [Yba.ntmps8, List.size_toArray, List.length_cons, List.length_nil, Nat.reduceAdd, Nat.reduceSub, Array.replicate_succ, Array.replicate_zero, List.push_toArray, List.append_toArray, List.nil_append, List.cons_append]
  gi_wp2_with (gi_at_call 14; refine (requests_in _ _ _ _ _ _ _).mono ?_; rintro e w' ⟨rfl, rfl⟩)
  obtain ⟨W0, hW0⟩ : ∃ W0, boxedWorld ((((w.alloc (.cells #[.slice none 0 0] 49)).alloc (.cells #[.bool false] 4)).alloc (.cells #[.slice none 0 0] 49)).alloc (.cells #[.bool true] 4)) qb d k fr key = W0 := ⟨_, rfl⟩
  obtain ⟨hsz, x0, x1, x2, x3, hB0⟩ := box_start w (.cells #[.slice none 0 0] 49) (.cells #[.bool false] 4) (.cells #[.slice none 0 0] 49) (.cells #[.bool true] 4) qb d k fr key
  rw [hW0] at hS hsz x0 x1 x2 x3 hB0 ⊢
  clear hW0
  refine wpIn_rangeFunc_ownH rfl (by omega) (gf := 17) (lb := #[.pointer (some ⟨w.heap.size + 1 + 1 + 1 + 1, 0, none⟩), .pointer (some ⟨w.heap.size + 1 + 1 + 1 + 1 + 2, 0, none⟩), .pointer (some ⟨w.heap.size + 1 + 1 + 1 + 1 + 1, 0, none⟩), .pointer (some ⟨w.heap.size + 1 + 1 + 1 + 1 + 4, 0, none⟩), .pointer (some ⟨w.heap.size + 1 + 1 + 1 + 1 + 3, 0, none⟩)]) rfl trivial (enters_of Yba.func17 (by kernel_rfl) rfl)
    (iter_stops (6 - 1) (by omega) base qb w.heap.size (w.heap.size + 1 + 1 + 1 + 1) (w.heap.size + 9) (w.heap.size + 1 + 1) d k X sV fV fr key p0 Z W0 hS hsz.symm hd hk (by omega) (by omega) (by omega) hfr hZ) KpR.trans (KpR.putObj (by omega)) (Below.refl _ _) (fun _ => rfl)
    (fun pre W => (((∃ v, Boxed W (w.heap.size + 1 + 1) 49 v ∧ W.ownsRow (w.heap.size + 9) 60 6 v pre.length (reqCells pre) ∧ True) ∧ Boxed W (w.heap.size + 1 + 1 + 1) 4 (.bool true)) ∧ (Boxed W w.heap.size 49 (.slice none 0 0) ∧ Boxed W (w.heap.size + 1) 4 (.bool false))) ∧ (w.heap.size + 9 ≤ W.heap.size ∧ Below w.heap.size w W))
    (fun _ _ _ => False)
    (OwnFrom.and (OwnFrom.and (OwnFrom.and (Own.from (holdsRow_own (w.heap.size + 9) (w.heap.size + 1 + 1) 49 60 6 (fun pre : List Req => pre.length) (fun pre => reqCells pre) (fun _ _ => True)) _) (Own.from (boxed_own _ _ _) _)) (OwnFrom.and (Own.from (boxed_own _ _ _) _) (Own.from (boxed_own _ _ _) _))) (OwnFrom.and (fun _ _ _ _ hs hg _ => Nat.le_trans hs hg.size) (ownFrom_below (Nat.le_refl _) (by omega))))
    (fun _ _ _ _ _ hs _ _ => hs)
    ⟨⟨⟨⟨_, x2, World.ownsRow_nil _ _ _ _, trivial⟩, x3⟩, x0, x1⟩, by omega, hB0⟩
    (fun x a' W => ∃ Bx, w.heap.size + 9 ≤ Bx ∧ W.heap[Bx]? = some (reqO x) ∧ a' = { tmps := #[.pointer (some ⟨qb, 0, none⟩), .int .i64 d, .int .i64 k, .int .i64 key, .int .i64 fr, undef, undef, undef, undef, undef, .pointer (some ⟨w.heap.size, 0, none⟩), .pointer (some ⟨w.heap.size + 1, 0, none⟩), .pointer (some ⟨w.heap.size + 1 + 1, 0, none⟩), .pointer (some ⟨w.heap.size + 1 + 1 + 1, 0, none⟩), .int .i64 x.slot, .pointer (some ⟨Bx, 0, none⟩), .pointer (some ⟨qb, 0, none⟩), .int .i64 d, .int .i64 k, .int .i64 key, .int .i64 fr, .func (.func 17) #[] #[.pointer (some ⟨w.heap.size + 1 + 1 + 1 + 1, 0, none⟩), .pointer (some ⟨w.heap.size + 1 + 1 + 1 + 1 + 2, 0, none⟩), .pointer (some ⟨w.heap.size + 1 + 1 + 1 + 1 + 1, 0, none⟩), .pointer (some ⟨w.heap.size + 1 + 1 + 1 + 1 + 4, 0, none⟩), .pointer (some ⟨w.heap.size + 1 + 1 + 1 + 1 + 3, 0, none⟩)], .int .i64 x.slot, reqV x, undef, undef, undef, undef, undef, undef, undef, undef, undef, undef, undef, undef, undef, undef], defers := [] })
    (fun x a' _ W1 W2 row hs hg hr => by obtain ⟨Bx, g1, g2, g3⟩ := hs; exact ⟨Bx, g1, block_own g2 hg hr, g3⟩)
    ?assign ?body ?done ?stop
  case assign =>
    rintro l pre x W K ⟨⟨⟨⟨v, bV, hrow, _⟩, bO⟩, bA, bB⟩, hz, hB⟩ hK
    gi_wp2
    exact hK _ _ ((KeepsOthers.alloc _ _).from _) (KpR.alloc hz _) ⟨⟨⟨⟨v, bV.alloc _, hrow.alloc _, trivial⟩, bO.alloc _⟩, bA.alloc _, bB.alloc _⟩, by simp; omega, hB.alloc hB.size _⟩ ⟨W.heap.size, hz, push_at_new rfl, rfl⟩
  case body =>
    rintro l pre x a' W hl ⟨r, hr⟩ ⟨⟨⟨⟨v, bV, hrow, _⟩, bO⟩, bA, bB⟩, hz, hB⟩ ⟨Bx, hBx, bX, rfl⟩ hlt
    obtain ⟨s0, s1, s2, s3, s4, s5, sf⟩ := req_cells bX
    have hc := bV.cell
    have hlen : (pre.length : Int) + 1 ≤ 100000 := by omega
    have hlb := lt_of_some bX
    have hls := hB.size
    have hg1 : ¬ (100000 : Int) < pre.length + 1 := by omega
    have hg2 : ¬ 100000 < pre.length + 1 := by omega
    clear hlen
    gi_wp2_with (gi_at_builtin; refine wpListIn_append_own _ rfl _ _ 49 rfl (w.heap.size + 9) 60 i0 _ 6 48 Yba.underlying49 hi hz0 hz1 hz2 rfl (by decide) _ _ _ rfl (hrow.alloc _) ⟨W.heap.size, 0, none⟩ 1 1 (reqL x) rfl rfl (cells_new _ _ _ rfl) (by simp [Value.oneCell']) (by unfold maxLen; omega) (by omega) (by simp; omega) ?_; intro v' w1 hown' hgrow _; obtain ⟨g', cap', rfl⟩ := ownsRow_succ hown'; obtain ⟨hv1, hv2, hr2, hk2, hb2⟩ := bV.appended (by decide) (row_mono (base' := w.heap.size) hrow (by omega)) hls (by omega) (row_mono (base' := w.heap.size) hown' (by omega)) hgrow; have hc1 := hv1.cell; have hf1 := hv1.frozen)
    have hrow3 := hown'.kept (grownBy_setCell' w1 (w.heap.size + 1 + 1) (.slice (some ⟨g', 0, none⟩) (pre.length + 1) cap')) (.inr (hv1.not_row (by decide) hown').symm)
    refine ⟨hk2.from _, KpR.collected hz hrow hgrow, ⟨⟨⟨_, hv2, ?_⟩, ((bO.alloc _).kept hgrow (bO.not_row (by decide) hrow)).other (by omega) _⟩, ((bA.alloc _).kept hgrow (bA.not_row (by decide) hrow)).other (by omega) _, ((bB.alloc _).kept hgrow (bB.not_row (by decide) hrow)).other (by omega) _⟩, ?_, hB.trans hb2⟩
    · simpa [reqCells_append, reqCells] using hrow3
    · exact Nat.le_trans hz hk2.size
  case done =>
    rintro D ys W hD rfl ⟨⟨⟨⟨v, bV, hrow, _⟩, bO⟩, bA, bB⟩, hz, hB⟩ hK
    have cV := bV.cell
    have cO := bO.cell
    have cA := bA.cell
    have cB := bB.cell
    have fA := bA.frozen
    have fB := bB.frozen
    obtain ⟨vo, vcap, hvf⟩ := ownsRow_form hrow
    rw [hvf] at cV
    gi_wp2
    gi_region
    gi_wp2
    rw [← hvf]
    have k2 : KeepsOthers W ((W.setCell ⟨w.heap.size, 0, none⟩ v).setCell ⟨w.heap.size + 1, 0, none⟩ (.bool true)).drew := ((KeepsOthers.setCell W _ _).trans (KeepsOthers.setCell _ _ _)).trans (KeepsOthers.drew _)
    have bA2 : Boxed ((W.setCell ⟨w.heap.size, 0, none⟩ v).setCell ⟨w.heap.size + 1, 0, none⟩ (.bool true)).drew w.heap.size 49 v := (bA.set v).other (by omega) _
    have bB2 : Boxed ((W.setCell ⟨w.heap.size, 0, none⟩ v).setCell ⟨w.heap.size + 1, 0, none⟩ (.bool true)).drew (w.heap.size + 1) 4 (.bool true) := (bB.other (by omega) _).set _
    have hrow1 := hrow.kept (grownBy_setCell' W w.heap.size v) (.inr (bA.not_row (by decide) hrow).symm)
    have hrow2 := hrow1.kept (grownBy_setCell' _ (w.heap.size + 1) (.bool true)) (.inr ((bB.other (B' := w.heap.size) (by omega) v).not_row (by decide) hrow1).symm)
    have hrow3 : ((W.setCell ⟨w.heap.size, 0, none⟩ v).setCell ⟨w.heap.size + 1, 0, none⟩ (.bool true)).drew.ownsRow (w.heap.size + 9) 60 6 v _ _ := hrow2.drew
    have hB2 : Below w.heap.size w ((W.setCell ⟨w.heap.size, 0, none⟩ v).setCell ⟨w.heap.size + 1, 0, none⟩ (.bool true)).drew := ((hB.setCell (p := ⟨w.heap.size, 0, none⟩) (Nat.le_refl _) _).setCell (p := ⟨w.heap.size + 1, 0, none⟩) (by simp) _).drew
    have hK2 := k2.same D _ hK rfl
    generalize ((W.setCell ⟨w.heap.size, 0, none⟩ v).setCell ⟨w.heap.size + 1, 0, none⟩ (.bool true)).drew = W2 at k2 bA2 bB2 hrow3 hB2 hK2 ⊢
    refine ⟨by simp, .inl ⟨_, _, rfl, run_takeDeferred hK2, ?_⟩⟩
    have hne : ∀ b, b < D → (W2.putObj D (.deferred none)).heap[b]? = W2.heap[b]? := fun b hb => World.putObj_heap_other (by omega)
    refine ⟨_, results_two _ _ w.heap.size (w.heap.size + 1) v (.bool true) rfl rfl ?_ ?_, v, rfl, row_mono (ownsRow_putObj hrow3 _ hK2 rfl) (by omega), hB2.trans (belowK_b (w := w) (Nat.le_refl _) W2 D _ _ (by omega) hK2 rfl rfl)⟩
    · exact Boxed.cell (t := 49) ((hne _ (by omega)).trans bA2)
    · exact Boxed.cell (t := 4) ((hne _ (by omega)).trans bB2)
  case stop =>
    rintro D c pre W _ _ h _
    exact h.elim
end Go.Proofs.Ybulkaraw

/-
  THE WALK OF 'LawS2128AArm'.
-/
import Derived.Test.YbulkarawProg
import Derived.WalkKit
import Derived.WalkSpells
import Derived.WalkLawsBesides
import Derived.OwnWalk
import Derived.Deep.MidRow
import Derived.Deep.QuietTactic
import Derived.BigQuiet
namespace Go.Proofs.Ybulkaraw
open Go.RowKit

abbrev I64 (x : Int) : Value := .int .i64 x
abbrev Bo (x : Bool) : Value := .bool x

theorem Yba.info27 : (Yba.prog.info? 27).map (fun i => (i.zero, i.size, i.bytes)) = some (some (.agg #[I64 0, I64 0, I64 0, I64 0, I64 0, I64 0, I64 0, I64 0, I64 0, I64 0]), 10, 80) := by kernel_rfl
theorem Yba.info4 : (Yba.prog.info? 4).map (fun i => (i.zero, i.size, i.bytes)) = some (some (.bool false), 1, 1) := by kernel_rfl

/-- What a slice that came in holds. -/
structure Ints (w : World) (base : Nat) (ao : Option Addr) (zs : List Int) : Prop where
  cells : zs ≠ [] → ∃ b off, ao = some ⟨b, off, none⟩ ∧ b < base ∧ ∀ j, j < zs.length → w.cell? ⟨b, off + j, none⟩ = some (I64 (zs.getD j 0))
structure Bools (w : World) (base : Nat) (ao : Option Addr) (bs : List Bool) : Prop where
  cells : bs ≠ [] → ∃ b off, ao = some ⟨b, off, none⟩ ∧ b < base ∧ ∀ j, j < bs.length → w.cell? ⟨b, off + j, none⟩ = some (Bo (bs.getD j false))

theorem arm_out (ao bo : Option Addr) (n cap m bcap : Nat) (i k : Int) (w : World) (hn : n = 0 ∨ 1024 < n) (hm : n ≤ maxLen) :
    Calls Yba.prog 3 #[.slice ao n cap, .slice bo m bcap, .int .i64 i, .int .u64 k] w fun e w' => e = .returned (.bool true) ∧ Below w.heap.size w w' := by
  unfold maxLen at hm
  rcases hn with rfl | hn
  all_goals
    go_enter Yba.func3, Yba.ntmps3
    go_wp2
    go_ret
    exact ⟨rfl, Below.refl _ _⟩

/-- The accesses that are made: those up to 'i' are laid. -/
structure Accs (base g : Nat) (zs : List Int) (i : Nat) (W : World) : Prop where
  big : base ≤ g
  there : W.there g 0 (zs.length * 10)
  cells : ∀ j, j < i → W.cell? ⟨g, j * 10 + 7, none⟩ = some (I64 (zs.getD j 0))

/-- A row of marks. -/
structure BRow (base g n : Nat) (f : Nat → Bool) (W : World) : Prop where
  big : base ≤ g
  lt : g < W.heap.size
  cells : ∀ a, a < n → W.cell? ⟨g, a, none⟩ = some (Bo (f a)) ∧ W.frozen? ⟨g, a, none⟩ = false

theorem Accs.kept {base g i : Nat} {zs : List Int} {W W' : World} (h : Accs base g zs i W) (hb : W'.heap[g]? = W.heap[g]?) : Accs base g zs i W' :=
  ⟨h.big, fun j hj => by rw [World.cell?_of_block (a := ⟨g, 0 + j, none⟩) hb, World.frozen?_of_block (a := ⟨g, 0 + j, none⟩) hb]; exact h.there j hj, fun j hj => by rw [World.cell?_of_block (a := ⟨g, _, none⟩) hb]; exact h.cells j hj⟩

theorem Accs.lt {base g i : Nat} {zs : List Int} {W : World} (h : Accs base g zs i W) (hp : 0 < zs.length) : g < W.heap.size := by
  have := (h.there 0 (by omega)).1
  obtain ⟨v, hv⟩ := Option.isSome_iff_exists.1 this
  exact World.block_lt_of_cell? W _ hv

theorem BRow.kept {base g n : Nat} {f : Nat → Bool} {W W' : World} (h : BRow base g n f W) (hb : W'.heap[g]? = W.heap[g]?) (hs : W.heap.size ≤ W'.heap.size) : BRow base g n f W' :=
  ⟨h.big, Nat.lt_of_lt_of_le h.lt hs, fun a ha => by rw [World.cell?_of_block (a := ⟨g, a, none⟩) hb, World.frozen?_of_block (a := ⟨g, a, none⟩) hb]; exact h.cells a ha⟩

theorem BRow.set {base g n j : Nat} {f f' : Nat → Bool} {W : World} (h : BRow base g n f W) (hj : j < n) (v : Bool) (hf : ∀ a, a < n → f' a = if a = j then v else f a) : BRow base g n f' (W.setCell ⟨g, j, none⟩ (Bo v)) := by
  refine ⟨h.big, by rw [show (W.setCell ⟨g, j, none⟩ (Bo v)).heap.size = W.heap.size by simp [World.setCell]]; exact h.lt, fun a ha => ⟨?_, by rw [World.frozen?_setCell]; exact (h.cells a ha).2⟩⟩
  rw [hf a ha]
  by_cases e : a = j
  · subst e
    rw [if_pos rfl]
    exact World.cell?_setCell_same _ _ _ (h.cells a ha).1
  · rw [if_neg e, World.cell?_setCell_other _ _ _ _ (by intro e'; injection e' with _ e2; exact e e2.symm)]
    exact (h.cells a ha).1

theorem BRow.congr {base g n : Nat} {f f' : Nat → Bool} {W : World} (h : BRow base g n f W) (hf : ∀ a, a < n → f' a = f a) : BRow base g n f' W :=
  ⟨h.big, h.lt, fun a ha => by rw [hf a ha]; exact h.cells a ha⟩

theorem below_setCells {B b : Nat} {w0 : World} (hb : B ≤ b) : ∀ (vs : List Value) (o : Nat) (w : World), Below B w0 w → Below B w0 (w.setCells b o vs)
  | [], _, _, h => h
  | v :: r, o, _, h => below_setCells hb r (o + 1) _ (h.setCell (p := ⟨b, o, none⟩) hb v)

theorem made_row {base n g e size : Nat} {w : World} {xs : List Value} (h : w.ownsRow base e size (.slice (some ⟨g, 0, none⟩) n n) n xs) : base ≤ g ∧ ∃ cur : Array Value, w.heap[g]? = some (.cells cur e (0, 0)) ∧ cur.size = n * size ∧ cur.toList = xs := by
  rcases h.2 with ⟨h1, _⟩ | ⟨g', cap, cur, h1, h2, h3, h4⟩
  · cases h1
  · injection h1 with e1 e2 e3
    injection e1 with e1
    injection e1 with e1
    subst e1 e3
    have := h4.2.2
    exact ⟨h2, cur, h3, this.1, by rw [← this.2, List.take_of_length_le (by simp [this.1])]⟩

theorem made_there {base n g e size : Nat} {w : World} {xs : List Value} (h : w.ownsRow base e size (.slice (some ⟨g, 0, none⟩) n n) n xs) : w.there g 0 (n * size) := by
  obtain ⟨_, cur, h1, h2, _⟩ := made_row h
  intro j hj
  rw [Nat.zero_add]
  refine ⟨?_, by simp [World.frozen?, h1]⟩
  simp [World.cell?, h1, h2]
  exact hj

theorem made_bools {base n g : Nat} {w : World} (h : w.ownsRow base 4 1 (.slice (some ⟨g, 0, none⟩) n n) n (madeCells (Value.bool false).cells (n * 1)).toList) (f : Nat → Bool) (hf : ∀ a, a < n → f a = false) : BRow base g n f w := by
  obtain ⟨h0, cur, h1, h2, h3⟩ := made_row h
  refine ⟨h0, (Array.getElem?_eq_some_iff.1 h1).1, fun a ha => ⟨?_, by simp [World.frozen?, h1]⟩⟩
  rw [hf a ha]
  have : cur[a]? = some (.bool false) := by
    rw [← Array.getElem?_toList, h3]
    simp [madeCells, Value.cells, ha, Nat.mod_one]
  simpa [World.cell?, h1] using this

set_option maxRecDepth 100000 in
/-- The contract of 'armWrite'. -/
theorem armWrite_spec (sb jb ab g1 g2 n kk : Nat) (i z : Int) (f : Bool) (w : World) (hk : kk < n) (_hn : n ≤ 1024)
    (h0 : w.cell? ⟨sb, 0, none⟩ = some (.pointer (some ⟨jb, 0, none⟩))) (h4 : w.cell? ⟨sb, 4, none⟩ = some (.slice (some ⟨g2, 0, none⟩) n n)) (h1 : w.cell? ⟨jb, 1, none⟩ = some (.pointer (some ⟨ab, 0, none⟩))) (h2 : w.cell? ⟨ab, 0, none⟩ = some (.slice (some ⟨g1, 0, none⟩) n n))
    (h7 : w.cell? ⟨g1, kk * 10 + 7, none⟩ = some (I64 z)) (hm : w.cell? ⟨g2, kk, none⟩ = some (Bo f)) (hz : w.frozen? ⟨g2, kk, none⟩ = false) :
    Calls Yba.prog 6 #[.pointer (some ⟨sb, 0, none⟩), .int .i64 i, .int .i64 kk] w fun e w' => e = .returned (.tuple #[]) ∧ w' = if i < z then w.setCell ⟨g2, kk, none⟩ (.bool true) else w := by
  by_cases hlt : i < z
  · rw [if_pos hlt]
    go_enter Yba.func6, Yba.ntmps6
    go_wp2
    go_end0
    exact ⟨rfl, rfl⟩
  · rw [if_neg hlt]
    go_enter Yba.func6, Yba.ntmps6
    go_wp2
    go_end0
    exact ⟨rfl, rfl⟩

/-- The cells of 'history.Access{LastWrite: x}'. -/
def accL (x : Int) : List Value := [I64 0, I64 0, I64 0, I64 0, I64 0, I64 0, I64 0, I64 x, I64 0, I64 0]

theorem one10 (x : Int) : (accL x).toArray.all (·.oneCell') = true := all_oneCell_toArray (by
  intro v hv
  simp only [accL, List.mem_cons, List.not_mem_nil, or_false] at hv
  rcases hv with rfl | rfl | rfl | rfl | rfl | rfl | rfl | rfl | rfl | rfl <;> rfl)

theorem wpList_store_acc {ops : Array Oper} {rest : List Oper} {op : Oper} {a : Act} {w : World} {Q : Exit → Act → World → Prop} (hgd : op.guard = none) (x y : Operand) (ho : op.op = .store 27 x y)
    (b o : Nat) (z : Int) (hx : a.eval x = .pointer (some ⟨b, o, none⟩)) (hy : a.eval y = .agg #[I64 0, I64 0, I64 0, I64 0, I64 0, I64 0, I64 0, I64 z, I64 0, I64 0])
    (ht : w.there b o 10) (h : wpList Yba.prog ops Q rest (a.put op.dst undef) (w.setCells b o (accL z))) : wpList Yba.prog ops Q (op :: rest) a w :=
  wpList_store_mid hgd 27 x y ho b o (accL z).toArray hx hy ht (by kernel_rfl) (one10 z) h

theorem accs_next {base g j : Nat} {zs : List Int} {W : World} (h : Accs base g zs j W) (hj : j < zs.length) (x : Int) (hx : x = zs.getD j 0) : Accs base g zs (j + 1) (W.setCells g (j * 10) (accL x)) := by
  refine ⟨h.big, World.there_setCells h.there _ _ _, fun a ha => ?_⟩
  by_cases e : a = j
  · subst e
    have := World.cell?_setCells_in g (accL x) (a * 10) W (fun q hq => by simpa using (h.there (a * 10 + q) (by simp [accL] at hq; omega)).1) 7 (by simp [accL])
    rw [this, hx]
    rfl
  · rw [World.cell?_setCells_out g _ _ W _ (fun _ _ => by simp [accL]; omega)]
    exact h.cells a (by omega)

/-- Three new blocks. -/
theorem new3 (w : World) (A B C : Obj) : (((w.alloc A).alloc B).alloc C).heap[w.heap.size]? = some A ∧ (((w.alloc A).alloc B).alloc C).heap[w.heap.size + 1]? = some B ∧ (((w.alloc A).alloc B).alloc C).heap[w.heap.size + 2]? = some C ∧
    ∀ k, k < w.heap.size → (((w.alloc A).alloc B).alloc C).heap[k]? = w.heap[k]? := by
  refine ⟨?_, ?_, ?_, fun k hk => ?_⟩
  all_goals show (((w.heap.push A).push B).push C)[_]? = _
  · simp only [Array.getElem?_push, Array.size_push]
    rw [if_neg (by omega), if_neg (by omega), if_pos trivial]
  · simp only [Array.getElem?_push, Array.size_push]
    rw [if_neg (by omega), if_pos trivial]
  · simp only [Array.getElem?_push, Array.size_push]
    rw [if_pos trivial]
  · simp only [Array.getElem?_push, Array.size_push]
    rw [if_neg (by omega), if_neg (by omega), if_neg (by omega)]

abbrev AO (g1 n : Nat) : Obj := .cells #[.slice (some ⟨g1, 0, none⟩) n n, .slice none 0 0, .slice none 0 0, .slice none 0 0, .slice none 0 0] 32
abbrev JO (ab : Nat) : Obj := .cells #[.pointer none, .pointer (some ⟨ab, 0, none⟩), .slice none 0 0, .pointer none, .pointer none, .slice none 0 0, .slice none 0 0, .pointer none, .slice none 0 0, .slice none 0 0, .slice none 0 0, .slice none 0 0, .slice none 0 0, .slice none 0 0] 40
abbrev SO (jb g2 n : Nat) : Obj := .cells #[.pointer (some ⟨jb, 0, none⟩), .map none, .slice none 0 0, .slice none 0 0, .slice (some ⟨g2, 0, none⟩) n n, .slice none 0 0, .slice none 0 0, .slice none 0 0] 44

/-- What stands behind 's.armWrite(i, kk)'. -/
structure Armed (base sb g2 g3 n kk : Nat) (i z : Int) (bs : List Bool) (w W : World) : Prop where
  marks : W.cell? ⟨sb, 4, none⟩ = some (.slice (some ⟨g2, 0, none⟩) n n)
  now : BRow base g2 n (fun a => if a = kk then (decide (i < z) || bs.getD a false) else bs.getD a false) W
  was : BRow base g3 n (fun a => bs.getD a false) W
  below : Below base w W

theorem armed (base g1 g2 g3 kk : Nat) (i z : Int) (zs : List Int) (bs : List Bool) (w wr : World) (hne : g2 ≠ g3) (hz : z = zs.getD kk 0) (hk : kk < zs.length) (hn : zs.length ≤ 1024) (hacc : Accs base g1 zs zs.length wr)
    (hr2 : BRow base g2 zs.length (fun a => decide (a < zs.length) && bs.getD a false) wr) (hr3 : BRow base g3 zs.length (fun a => decide (a < zs.length) && bs.getD a false) wr) (hbl : Below base w wr) (hbs : base ≤ wr.heap.size) :
    Calls Yba.prog 6 #[.pointer (some ⟨wr.heap.size + 1 + 1, 0, none⟩), .int .i64 i, .int .i64 kk] (((wr.alloc (AO g1 zs.length)).alloc (JO wr.heap.size)).alloc (SO (wr.heap.size + 1) g2 zs.length)) fun e w' => e = .returned (.tuple #[]) ∧
      Armed base (wr.heap.size + 1 + 1) g2 g3 zs.length kk i z bs w w' := by
  obtain ⟨h1, h2, h3, hk4⟩ := new3 wr (AO g1 zs.length) (JO wr.heap.size) (SO (wr.heap.size + 1) g2 zs.length)
  have hlt2 := hr2.lt
  have hlt3 := hr3.lt
  have hlt1 := hacc.lt (by omega)
  have hb4 : Below base w (((wr.alloc (AO g1 zs.length)).alloc (JO wr.heap.size)).alloc (SO (wr.heap.size + 1) g2 zs.length)) := ((hbl.alloc hbs _).alloc (by simp; omega) _).alloc (by simp; omega) _
  have hacc4 := hacc.kept (hk4 _ hlt1)
  have hr24 := hr2.kept (hk4 _ hlt2) (by simp; omega)
  have hr34 := hr3.kept (hk4 _ hlt3) (by simp; omega)
  generalize (((wr.alloc (AO g1 zs.length)).alloc (JO wr.heap.size)).alloc (SO (wr.heap.size + 1) g2 zs.length)) = W4 at *
  obtain ⟨m1, m2⟩ := hr24.cells kk hk
  have s4 : W4.cell? ⟨wr.heap.size + 1 + 1, 4, none⟩ = some (.slice (some ⟨g2, 0, none⟩) zs.length zs.length) := by simp [World.cell?, h3]
  have s0 : W4.cell? ⟨wr.heap.size + 1 + 1, 0, none⟩ = some (.pointer (some ⟨wr.heap.size + 1, 0, none⟩)) := by simp [World.cell?, h3]
  have j1 : W4.cell? ⟨wr.heap.size + 1, 1, none⟩ = some (.pointer (some ⟨wr.heap.size, 0, none⟩)) := by simp [World.cell?, h2]
  have a0 : W4.cell? ⟨wr.heap.size, 0, none⟩ = some (.slice (some ⟨g1, 0, none⟩) zs.length zs.length) := by simp [World.cell?, h1]
  have z7 : W4.cell? ⟨g1, kk * 10 + 7, none⟩ = some (I64 z) := by rw [hz]; exact hacc4.cells kk hk
  refine (armWrite_spec _ _ _ g1 g2 zs.length kk i z _ W4 hk hn s0 s4 j1 a0 z7 m1 m2).mono ?_
  rintro e w' ⟨rfl, rfl⟩
  refine ⟨rfl, ?_⟩
  by_cases hlt : i < z
  · rw [if_pos hlt]
    refine ⟨(World.cell?_setCell_other _ _ _ _ (by intro e; injection e with e; omega)).trans s4, hr24.set hk true (fun a ha => ?_), (hr34.kept (Below.heap_setCell _ ⟨g2, kk, none⟩ _ _ (by simp; omega)) (by simp [World.setCell])).congr (fun a ha => by simp [ha]), hb4.setCell (p := ⟨g2, kk, none⟩) hr24.big _⟩
    by_cases e : a = kk
    · simp [e, hlt]
    · simp [e, ha]
  · rw [if_neg hlt]
    refine ⟨s4, hr24.congr (fun a ha => ?_), hr34.congr (fun a ha => by simp [ha]), hb4⟩
    simp [hlt, ha]

set_option maxRecDepth 100000 in
set_option maxHeartbeats 3200000 in
theorem arm_in (b off : Nat) (bo : Option Addr) (zs : List Int) (bs : List Bool) (cap bcap : Nat) (i : Int) (k : Nat) (w : World) (hl : zs.length ≤ 1024) (hpos : 0 < zs.length) (_hml : bs.length ≤ maxLen)
    (hA : ∀ j, j < zs.length → w.cell? ⟨b, off + j, none⟩ = some (I64 (zs.getD j 0))) (hb : b < w.heap.size) (hB : Bools w w.heap.size bo bs) (hk : k < 18446744073709551616) :
    Calls Yba.prog 3 #[.slice (some ⟨b, off, none⟩) zs.length cap, .slice bo bs.length bcap, .int .i64 i, .int .u64 k] w fun e w' => e = .returned (.bool true) ∧ Below w.heap.size w w' := by
  obtain ⟨i0, hi, hz0, hz1, hz2⟩ := info_parts Yba.info27
  obtain ⟨i4, hi4, hy0, hy1, hy2⟩ := info_parts Yba.info4
  unfold maxLen at _hml
  have hz : ((zs.length : Int) == 0) = false := by simp; intro e; simp [e] at hpos
  have HA : Hid (∀ j, j < zs.length → w.cell? ⟨b, off + j, none⟩ = some (I64 (zs.getD j 0))) := hA
  clear hA
  go_enter Yba.func3, Yba.ntmps3
  go_wp2_with (first
    | (at_make; refine wpList_make_full _ rfl _ _ 25 rfl w.heap.size 27 i0 _ 10 Yba.underlying25 hi hz0 hz1 .i64 .i64 (zs.length : Int) (zs.length : Int) zs.length rfl rfl rfl rfl (by rw [hz2]; omega) (by unfold maxLen; omega) (Nat.le_refl _) ?_; intro w1 hown1 hg1))
  go_loopw [11] (fun u wr => ∃ j : Nat, u = .int .i64 j ∧ j ≤ zs.length ∧ Accs w.heap.size w.heap.size zs j wr ∧ Below w.heap.size w wr) (fun u _ => match u with | .int _ x => (zs.length - x).toNat | _ => 0)
  case atStart =>
    exact ⟨0, rfl, Nat.zero_le _, ⟨Nat.le_refl _, made_there hown1, fun j hj => by omega⟩, (Below.refl _ _).grown hg1 (Nat.le_refl _) (fun j e => by cases e)⟩
  case round =>
    clear hown1 hg1
    obtain ⟨j, rfl, hj, hacc, hbl⟩ := hrel
    rcases Nat.lt_or_eq_of_le hj with hlt | heq
    · obtain ⟨x, hx⟩ : ∃ x, x = zs.getD j 0 := ⟨_, rfl⟩
      have hc : wr.cell? ⟨b, off + j, none⟩ = some (I64 x) := by rw [hx]; exact (hbl.cell (p := ⟨b, off + j, none⟩) hb).trans (HA.out j hlt)
      have Hx : Hid (x = zs.getD j 0) := hx
      clear hx
      have hth : wr.there w.heap.size (j * 10) 10 := fun q hq => by simpa using hacc.there (j * 10 + q) (by omega)
      go_wp2_with (first
        | (with_reducible show wpList _ _ _ (Oper.mk _ (Op.store 27 _ _) _ _ _ _ :: _) _ _; refine wpList_store_acc rfl _ _ rfl w.heap.size (j * 10) x rfl rfl hth ?_))
      refine ⟨⟨j + 1, by simp, hlt, accs_next hacc hlt x Hx.out, below_setCells (Nat.le_refl _) _ _ _ hbl⟩, ?_⟩
      show ((zs.length : Int) - (j + 1)).toNat < ((zs.length : Int) - j).toNat
      omega
    · obtain rfl : j = zs.length := heq
      clear hj
      go_wp2_with (first
        | (at_make; have _t := hown2; refine wpList_make_full _ rfl _ _ 23 rfl w.heap.size 4 i4 _ 1 Yba.underlying23 hi4 hy0 hy1 .i64 .i64 (zs.length : Int) (zs.length : Int) zs.length rfl rfl rfl rfl (by rw [hy2]; omega) (by unfold maxLen; omega) hs2 ?_; intro w3 hown3 hg3)
        | (at_make; refine wpList_make_full _ rfl _ _ 23 rfl w.heap.size 4 i4 _ 1 Yba.underlying23 hi4 hy0 hy1 .i64 .i64 (zs.length : Int) (zs.length : Int) zs.length rfl rfl rfl rfl (by rw [hy2]; omega) (by unfold maxLen; omega) hbl.size ?_; intro w2 hown2 hg2; have hs2 := Nat.le_trans hbl.size hg2.size))
      have hg1 := hacc.lt hpos
      obtain ⟨g2, hg2e⟩ : ∃ g2, g2 = wr.heap.size := ⟨_, rfl⟩
      obtain ⟨g3, hg3e⟩ : ∃ g3, g3 = w2.heap.size := ⟨_, rfl⟩
      have hr2 := made_bools hown2 (fun a => decide (a < 0) && bs.getD a false) (fun a _ => by simp)
      have hr3 := made_bools hown3 (fun a => decide (a < 0) && bs.getD a false) (fun a _ => by simp)
      have hlt23 := hr2.lt
      have hr2' := hr2.kept (hg3.block _ hlt23 (by simp)) hg3.size
      have hacc3 := (hacc.kept (hg2.block _ hg1 (by simp))).kept (hg3.block _ (by omega) (by simp))
      have hb3 := (hbl.grown hg2 hbl.size (fun j e => by cases e)).grown hg3 hs2 (fun j e => by cases e)
      rw [← hg2e] at hr2' hlt23 hg1 ⊢
      rw [← hg3e] at hr3 hlt23 ⊢
      clear hr2 hown2 hown3 hg2 hg3 hg2e hg3e hs2 hacc hbl
      go_loopw [14] (fun u wr => ∃ j : Nat, u = .int .i64 j ∧ j ≤ zs.length ∧ Accs w.heap.size w.heap.size zs zs.length wr ∧ BRow w.heap.size g2 zs.length (fun a => decide (a < j) && bs.getD a false) wr ∧ BRow w.heap.size g3 zs.length (fun a => decide (a < j) && bs.getD a false) wr ∧ Below w.heap.size w wr)
        (fun u _ => match u with | .int _ x => (zs.length - x).toNat | _ => 0)
      case atStart => exact ⟨0, rfl, Nat.zero_le _, hacc3, hr2', hr3, hb3⟩
      case round =>
        clear hacc3 hr2' hr3 hb3
        obtain ⟨j, rfl, hj, hacc, hr2, hr3, hbl⟩ := hrel
        rcases Nat.lt_or_eq_of_le hj with hlt | heq
        · have hjs : ¬ zs.length ≤ j := by omega
          by_cases hjb : j < bs.length
          · obtain ⟨bb, boff, rfl, hbb, hBc⟩ := hB.cells (by intro e; simp [e] at hjb)
            obtain ⟨v, hv⟩ : ∃ v, v = bs.getD j false := ⟨_, rfl⟩
            have hc : wr.cell? ⟨bb, boff + j, none⟩ = some (Bo v) := by rw [hv]; exact (hbl.cell (p := ⟨bb, boff + j, none⟩) hbb).trans (hBc j hjb)
            have hn2 : bb ≠ g2 := by have := hr2.big; omega
            obtain ⟨hm2, hf2⟩ := hr2.cells j hlt
            obtain ⟨hm3, hf3⟩ := hr3.cells j hlt
            have e1 : ∀ y, (wr.setCell ⟨g2, j, none⟩ y).cell? ⟨bb, boff + j, none⟩ = some (Bo v) := fun y => (World.cell?_setCell_other _ _ _ _ (by intro e; injection e with e; exact hn2 e.symm)).trans hc
            have e2 : ∀ y, (wr.setCell ⟨g2, j, none⟩ y).cell? ⟨g3, j, none⟩ = some _ := fun y => (World.cell?_setCell_other _ _ _ _ (by intro e; injection e with e; omega)).trans hm3
            have e3 : ∀ y, (wr.setCell ⟨g2, j, none⟩ y).frozen? ⟨g3, j, none⟩ = false := fun y => by rw [World.frozen?_setCell]; exact hf3
            have Hv : Hid (v = bs.getD j false) := hv
            clear hv hBc
            go_wp2
            have hf : ∀ a, a < zs.length → (decide (a < j + 1) && bs.getD a false) = if a = j then v else (decide (a < j) && bs.getD a false) := by
              intro a _
              rw [Hv.out]
              by_cases e : a = j
              · subst e; simp
              · rw [if_neg e]
                congr 1
                simp; omega
            have hA1 : Accs w.heap.size w.heap.size zs zs.length (wr.setCell ⟨g2, j, none⟩ (Bo v)) := hacc.kept (Below.heap_setCell wr ⟨g2, j, none⟩ _ _ (by simp; omega))
            have hA2 : Accs w.heap.size w.heap.size zs zs.length ((wr.setCell ⟨g2, j, none⟩ (Bo v)).setCell ⟨g3, j, none⟩ (Bo v)) := hA1.kept (Below.heap_setCell _ ⟨g3, j, none⟩ _ _ (by simp; omega))
            have hR2 := (hr2.set hlt v hf).kept (W' := (wr.setCell ⟨g2, j, none⟩ (Bo v)).setCell ⟨g3, j, none⟩ (Bo v)) (Below.heap_setCell _ ⟨g3, j, none⟩ _ _ (by simp; omega)) (by simp [World.setCell])
            have hR3 := (hr3.kept (W' := wr.setCell ⟨g2, j, none⟩ (Bo v)) (Below.heap_setCell _ ⟨g2, j, none⟩ _ _ (by simp; omega)) (by simp [World.setCell])).set hlt v hf
            refine ⟨⟨j + 1, by simp, hlt, hA2, hR2, hR3, (hbl.setCell (p := ⟨g2, j, none⟩) hr2.big _).setCell (p := ⟨g3, j, none⟩) hr3.big _⟩, ?_⟩
            show ((zs.length : Int) - (j + 1)).toNat < ((zs.length : Int) - j).toNat
            omega
          · go_wp2
            have hf : ∀ a, a < zs.length → (decide (a < j + 1) && bs.getD a false) = (decide (a < j) && bs.getD a false) := by
              intro a _
              by_cases e : a = j
              · subst e
                simp only [List.getD_eq_getElem?_getD, List.getElem?_eq_none (Nat.le_of_not_lt hjb)]
                simp
              · congr 1
                simp; omega
            refine ⟨⟨j + 1, by simp, hlt, hacc, hr2.congr hf, hr3.congr hf, hbl⟩, ?_⟩
            show ((zs.length : Int) - (j + 1)).toNat < ((zs.length : Int) - j).toNat
            omega
        · obtain rfl : j = zs.length := heq
          clear hj
          obtain ⟨kk, hkk⟩ : ∃ kk, kk = k % zs.length := ⟨_, rfl⟩
          have hkn : kk < zs.length := by rw [hkk]; exact Nat.mod_lt _ hpos
          have hm : (k : Int) % zs.length = (kk : Int) := by rw [hkk]; norm_cast
          clear hkk
          go_wp2_with (first
            | (go_at_call 6; refine (armed w.heap.size w.heap.size g2 g3 kk i (zs.getD kk 0) zs bs w wr (by omega) rfl hkn hl hacc hr2 hr3 hbl hbl.size).mono ?_; rintro e w5 ⟨rfl, har⟩; have hma := har.marks))
          obtain ⟨sb, hsb⟩ : ∃ sb, sb = wr.heap.size + 1 + 1 := ⟨_, rfl⟩
          rw [← hsb] at har hma ⊢
          clear hsb hacc hr2 hr3 hbl
          go_loopw [18] (fun u wx => ∃ j : Nat, u = .int .i64 j ∧ j ≤ zs.length ∧ wx = w5) (fun u _ => match u with | .int _ x => (zs.length - x).toNat | _ => 0)
          case atStart => exact ⟨0, rfl, Nat.zero_le _, rfl⟩
          case round =>
            obtain ⟨j, rfl, hj, hwx⟩ := hrel
            subst hwx
            rcases Nat.lt_or_eq_of_le hj with hlt | heq
            · have hjs : ¬ zs.length ≤ j := by omega
              obtain ⟨x, hx⟩ : ∃ x, x = zs.getD j 0 := ⟨_, rfl⟩
              have ha := (har.below.cell (p := ⟨b, off + j, none⟩) hb).trans (HA.out j hlt)
              rw [← hx] at ha
              obtain ⟨v, hv⟩ : ∃ v, v = bs.getD j false := ⟨_, rfl⟩
              have m3 := (har.was.cells j hlt).1
              have m2 := (har.now.cells j hlt).1
              simp only [← hv] at m3 m2
              have hma := har.marks
              have Har : Hid _ := har
              clear har
              by_cases hjk : j = kk
              · subst hjk
                rw [← hx] at m2
                have hjb : ((j : Int) == (j : Int)) = true := by simp
                clear hx hv
                by_cases hi : i < x
                · simp only [hi, decide_true, Bool.true_or, if_true] at m2
                  cases v
                  all_goals
                    go_wp2
                    refine ⟨⟨j + 1, by simp, hlt, trivial⟩, ?_⟩
                    show ((zs.length : Int) - (j + 1)).toNat < ((zs.length : Int) - j).toNat
                    omega
                · simp only [hi, decide_false, Bool.false_or, if_true] at m2
                  cases v
                  all_goals
                    go_wp2
                    refine ⟨⟨j + 1, by simp, hlt, trivial⟩, ?_⟩
                    show ((zs.length : Int) - (j + 1)).toNat < ((zs.length : Int) - j).toNat
                    omega
              · have hjb : ((j : Int) == (kk : Int)) = false := by simp; omega
                rw [if_neg hjk] at m2
                clear hx hv
                cases v
                all_goals
                    go_wp2
                    refine ⟨⟨j + 1, by simp, hlt, trivial⟩, ?_⟩
                    show ((zs.length : Int) - (j + 1)).toNat < ((zs.length : Int) - j).toNat
                    omega
            · obtain rfl : j = zs.length := heq
              have hbe := har.below
              go_wp2
              go_ret
              exact ⟨rfl, hbe⟩
end Go.Proofs.Ybulkaraw

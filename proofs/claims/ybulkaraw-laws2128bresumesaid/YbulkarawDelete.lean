/-
  THE CONTRACT OF 'slices.Delete' AT REQUESTS: one element leaves.
-/
import Derived.Test.YbulkarawSlots
import Derived.Deep.RegionLaw
namespace Go.Proofs.Ybulkaraw
open Go.RowKit

theorem Yba.info60 : (Yba.prog.info? 60).map (fun i => (i.zero, i.size, i.bytes)) = some (some (.agg #[N64 0, N64 0, N64 0, N64 0, N64 0, N64 0]), 6, 48) := by kernel_rfl

/-- The head of a row of one's own. -/
theorem ownsRow_cut {w : World} {base e size n k g cap : Nat} {xs ys : List Value} (h : w.ownsRow base e size (.slice (some ⟨g, 0, none⟩) n cap) n (xs ++ ys)) (hk : k ≤ n) (hx : xs.length = k * size) : w.ownsRow base e size (.slice (some ⟨g, 0, none⟩) k cap) k xs := by
  obtain ⟨h1, h2⟩ := h
  rcases h2 with ⟨h2, _⟩ | ⟨g', cap', cur, h2, h3, h4, h5, h6, h7, h8⟩
  · cases h2
  · injection h2 with e1 e2 e3
    injection e1 with e1
    injection e1 with e1
    subst e1 e3
    refine ⟨hx, .inr ⟨g, cap, cur, rfl, h3, h4, by omega, h6, h7, ?_⟩⟩
    have := congrArg (List.take (k * size)) h8
    rw [List.take_take, Nat.min_eq_left (Nat.mul_le_mul_right _ hk), List.take_left' hx] at this
    exact this

/-- append within the capacity onto a row of one's own, as one step of a region that draws. -/
theorem step_append_own {P : Program} {ops : Array Oper} {o : Oper} {a : Act} {w : World} {K : Act → World → Prop} {Q : Exit → Act → World → Prop} {E : Prop}
    (hg : o.guard = none) (s x : Operand) (t : TypeId) (hop : o.op = Op.call { callee := Callee.builtin Builtin.append, args := #[s, x], argTypes := #[t, t] })
    (base : Nat) (e : TypeId) (i : TypeInfo) (size : Nat) (h1 : P.underlying t = some (.slice e)) (h2 : P.info? e = some i) (h4 : i.size = size)
    (g k cap : Nat) (xs : List Value) (hs : a.eval s = .slice (some ⟨g, 0, none⟩) k cap) (hown : w.ownsRow base e size (.slice (some ⟨g, 0, none⟩) k cap) k xs)
    (ad : Addr) (m c : Nat) (news : List Value) (hx : a.eval x = .slice (some ad) m c) (hn : news.length = m * size)
    (hc : ∀ j u, news[j]? = some u → w.cell? (ad.add j) = some u) (h1c : ∀ u ∈ news, u.oneCell' = true) (b1 : k + m ≤ cap)
    (hK : ∀ w', w'.ownsRow base e size (.slice (some ⟨g, 0, none⟩) (k + m) cap) (k + m) (xs ++ news) → w.grownBy w' (some g) → K (a.put o.dst (.slice (some ⟨g, 0, none⟩) (k + m) cap)) w') :
    if Region.wanted o (yielded ops a.tmps) = true then Oper.wp P o a w K Q else E := by
  have hw : Region.wanted o (yielded ops a.tmps) = true := by simp [Region.wanted, hg]
  rw [if_pos hw]
  obtain ⟨w', hrun, r1, r2⟩ := run_append_fits (P := P) w base t o.type e i size h1 h2 h4 g k cap xs hown ad m c news hn hc h1c b1
  unfold Oper.wp
  simp [execOp, hop, resolve, invoke, builtin, hs, hx, hrun, Result.andThen]
  exact hK w' r1 r2

/-- 'clear' of the one element behind a row of one's own. -/
theorem run_clear_one {P : Program} {w : World} (t ty : TypeId)
    (base e size : Nat) (i : TypeInfo) (z : Value) (ht : P.underlying t = some (.slice e)) (hi : P.info? e = some i) (hz : i.zero = some z) (hzs : z.cells.size = size) (hz1 : ∀ u ∈ z.cells.toList, u.oneCell' = true)
    (g k cap c : Nat) (xs : List Value) (hown : w.ownsRow base e size (.slice (some ⟨g, 0, none⟩) k cap) k xs) (m : Nat) (hm : m = 1) (hk : k + 1 ≤ cap) :
    ∃ w', (Builtin.clear_ #[t] ty #[.slice (some ⟨g, k * size, none⟩) m c]).run P w = .ok (.tuple #[]) w' ∧ w'.ownsRow base e size (.slice (some ⟨g, 0, none⟩) k cap) k xs ∧ w.grownBy w' (some g) := by
  subst hm
  rcases hown.2 with ⟨h2, _⟩ | ⟨g', cap', cur, h2, h3, h4, h5, h6, h7, h8⟩
  · cases h2
  injection h2 with e1 e2 e3
  injection e1 with e1
  injection e1 with e1
  subst e1 e3
  have hzc : (Builtin.zeroCells z.cells 1).toList.length = size := by simp [Builtin.zeroCells, hzs]
  have hsize : (k + 1) * size ≤ cap * size := Nat.mul_le_mul_right _ hk
  rw [Nat.add_mul, Nat.one_mul] at hsize
  have hfit : k * size + 0 + (Builtin.zeroCells z.cells 1).toList.length ≤ cur.size := by rw [hzc, h7]; omega
  have h1 : ∀ v ∈ (Builtin.zeroCells z.cells 1).toList, v.oneCell' = true := by
    intro v hv
    simp [Builtin.zeroCells] at hv
    obtain ⟨j, hj, rfl⟩ := hv
    rw [Nat.mod_eq_of_lt hj]
    exact hz1 _ (by simp [hj])
  have hst := run_storeCells_at P g (k * size) e _ 0 cur w h4 hfit h1
  simp only [Nat.add_zero] at hst
  have hrun : (Builtin.clear_ #[t] ty #[.slice (some ⟨g, k * size, none⟩) 1 c]).run P w = .ok (.tuple #[]) (w.setRow g (cur.toList.take (k * size) ++ (Builtin.zeroCells z.cells 1).toList ++ cur.toList.drop (k * size + (Builtin.zeroCells z.cells 1).toList.length)).toArray) := by
    simp [Builtin.clear_, run_underlying ht, zeroValue, typeInfo, hi, hz, hst]
  have hown' : (w.setRow g (cur.toList.take (k * size) ++ (Builtin.zeroCells z.cells 1).toList ++ cur.toList.drop (k * size + (Builtin.zeroCells z.cells 1).toList.length)).toArray).ownsRow base e size (.slice (some ⟨g, 0, none⟩) k cap) k xs := by
    refine ⟨hown.1, .inr ⟨g, cap, _, rfl, h3, setRow_heap w g cur _ e _ h4, h5, h6, ?_, ?_⟩⟩
    · simp only [List.size_toArray, List.length_append, List.length_take, List.length_drop, hzc, Array.length_toList]
      omega
    · simp only [List.append_assoc]
      rw [List.take_left' (by simp [Nat.min_def]; omega), h8]
  exact ⟨_, hrun, hown', ⟨rfl, rfl, rfl, by simp [World.setRow], fun j _ hj => setRow_other w g j _ (fun e => hj (by rw [e]))⟩⟩

set_option maxRecDepth 100000 in
set_option maxHeartbeats 1600000 in
theorem delete_spec (base g cap la lb : Nat) (ps rs bs : List Value) (W : World) (h : W.ownsRow base 60 6 (.slice (some ⟨g, 0, none⟩) (la + 1 + lb) cap) (la + 1 + lb) (ps ++ (rs ++ bs))) (hla : ps.length = la * 6) (hrs : rs.length = 6) (hbs : bs.length = lb * 6) (h1 : ∀ u ∈ bs, u.oneCell' = true) (hn : la + 1 + lb ≤ 1024) :
    Calls Yba.prog 13 #[.slice (some ⟨g, 0, none⟩) (la + 1 + lb) cap, .int .i64 la, .int .i64 (la + 1)] W fun e w' => e = .returned (.slice (some ⟨g, 0, none⟩) (la + lb) cap) ∧ w'.ownsRow base 60 6 (.slice (some ⟨g, 0, none⟩) (la + lb) cap) (la + lb) (ps ++ bs) ∧ W.grownBy w' (some g) := by
  obtain ⟨i0, hi, hz0, hz1, hz2⟩ := info_parts Yba.info60
  have hcap := (ownsRow_block h).2.1
  have hcut := ownsRow_cut h (k := la) (by omega) hla
  have hne : ¬ (la : Int) = la + 1 := by omega
  have hcs : ∀ j u, bs[j]? = some u → W.cell? ⟨g, (la + 1) * 6 + j, none⟩ = some u := by
    intro j u hj
    refine ownsRow_cell h ?_
    rw [List.getElem?_append_right (by omega), List.getElem?_append_right (by omega)]
    rw [show (la + 1) * 6 + j - ps.length - rs.length = j by omega]
    exact hj
  have d1 : la ≤ cap := by omega
  have d2 : la + 1 ≤ la + 1 + lb := by omega
  have d3 : (la : Int) + 1 ≤ la + 1 + lb := by omega
  have d4 : (0 : Int) ≤ la + 1 := by omega
  by_cases hfull : cap = la + 1
  · obtain rfl : lb = 0 := by omega
    obtain rfl : bs = [] := List.eq_nil_of_length_eq_zero (by omega)
    subst hfull
    simp only [Nat.add_zero, List.append_nil] at h d2 hcap
    simp only [Nat.add_zero, List.append_nil]
    have d5 : (la : Int) ≤ la + 1 := by omega
    go_enter Yba.func13, Yba.ntmps13
    go_wp2
    go_region_law (refine step_append_own rfl (.tmp 22) (.tmp 25) 49 rfl base 60 i0 6 Yba.underlying49 hi hz1 g la (la + 1) ps (by simp [Act.eval, Act.put]) hcut.drew ⟨g, 0, none⟩ 0 0 [] (by simp [Act.eval, Act.put]) rfl (fun j u hj => by simp at hj) (by simp) (by omega) ?_; intro w1 r1 r2)
    simp only [Nat.add_zero, List.append_nil] at r1
    obtain ⟨w2, hclr, s1, s2⟩ := run_clear_one (P := Yba.prog) 49 0 base 60 6 i0 _ Yba.underlying49 hi hz0 rfl (by decide) g la (la + 1) 1 ps r1 1 rfl (by omega)
    go_wp2
    go_ret
    exact ⟨rfl, s1, World.grownBy.trans (b := w1) ⟨r2.os, r2.tape, r2.output, r2.size, r2.block⟩ s2⟩
  · have hfb : (cap == la + 1) = false := by simpa using hfull
    go_enter Yba.func13, Yba.ntmps13
    go_wp2
    go_region_law (refine step_append_own rfl (.tmp 22) (.tmp 25) 49 rfl base 60 i0 6 Yba.underlying49 hi hz1 g la cap ps (by simp [Act.eval, Act.put]) hcut.drew ⟨g, (la + 1) * 6, none⟩ lb (cap - (la + 1)) bs (by simp [Act.eval, Act.put]) hbs (fun j u hj => by rw [Addr.add_lit]; exact hcs j u hj) h1 (by omega) ?_; intro w1 r1 r2)
    have d5 : la + lb ≤ cap := by omega
    have d6 : la + lb ≤ la + 1 + lb := by omega
    obtain ⟨w2, hclr, s1, s2⟩ := run_clear_one (P := Yba.prog) 49 0 base 60 6 i0 _ Yba.underlying49 hi hz0 rfl (by decide) g (la + lb) cap (cap - (la + lb)) (ps ++ bs) r1 (la + 1 + lb - (la + lb)) (by omega) (by omega)
    go_wp2
    go_ret
    exact ⟨rfl, s1, World.grownBy.trans (b := w1) ⟨r2.os, r2.tape, r2.output, r2.size, r2.block⟩ s2⟩
end Go.Proofs.Ybulkaraw

/-
  THE WALKS OF 'LawS2128BWalk' AND 'LawS2128BResume'.
-/
import Derived.Test.YbulkarawBuild
import Derived.Test.YbulkarawExpect
import Derived.Test.YbulkarawEq
namespace Go.Proofs.Ybulkaraw
open Go.RowKit

theorem reads_row {base : Nat} {v : Value} {m : List Req} {W : World} (h : W.ownsRow base 60 6 v m.length (reqCells m)) : ReadsAt v m W := by
  refine ⟨ownsRow_form h, ?_⟩
  by_cases hm : m = []
  · exact .inl hm
  · obtain ⟨g, cap, rfl⟩ := ownsRow_value h (by cases m with | nil => exact absurd rfl hm | cons a m => simp)
    exact .inr ⟨g, 0, cap, rfl, fun i r hi => by simpa using row_req h hi⟩

theorem row_below {W w' : World} {base e size n : Nat} {v : Value} {xs : List Value} (h : W.ownsRow base e size v n xs) (hB : Below W.heap.size W w') : w'.ownsRow base e size v n xs :=
  ownsRow_same h (fun j hj => hB.block j (h.lt j hj).2)

set_option maxRecDepth 100000 in
set_option maxHeartbeats 1600000 in
theorem law4_spec (so : Option Addr) (b off len cap : Nat) (hso : 0 < len → so = some ⟨b, off, none⟩) (O : Nat → Nat) (A : Nat → Int) (W : World) (hb : 0 < len → b < W.heap.size) (hlc : len ≤ cap)
    (hc0 : ∀ i, i < len → W.cell? ⟨b, off + i * 2, none⟩ = some (.int .u8 (O i)))
    (hc1 : ∀ i, i < len → W.cell? ⟨b, off + i * 2 + 1, none⟩ = some (.int .i64 (A i)))
    (hO : ∀ i, i < len → O i < 256) (hA : ∀ i, i < len → -9223372036854775808 ≤ A i ∧ A i < 9223372036854775808) (D K : Nat) (hD : D < 256) (hK : K < 256) (key : Int) :
    Calls Yba.prog 4 #[.slice so len cap, .int .u8 D, .int .u8 K, .int .i64 key] W fun e w' => e = .returned (.bool true) ∧ Below W.heap.size W w' := by
  by_cases hn : len ≤ 1024
  · have hbuild := build_spec so b off len cap hso O A W hb hn hlc hc0 hc1 hO hA
    obtain ⟨d, hd⟩ : ∃ d, d = D % 2 := ⟨_, rfl⟩
    obtain ⟨k, hk⟩ : ∃ k, k = K % 2 := ⟨_, rfl⟩
    have hdl : d < 2 := by omega
    have hkl : k < 2 := by omega
    have hdi : (D : Int) % 2 = d := by omega
    have hki : (K : Int) % 2 = k := by omega
    clear hd hk hc0 hc1 hO hA hso hb
    go_enter Yba.func4, Yba.ntmps4
    go_wp2_with (first
      | (go_at_call 7; refine hbuild.mono ?_; rintro e w1 ⟨X, m, mv, sV, fV, rfl, hB, hb1⟩; clear hbuild; have hml : m.length ≤ 1024 := (by have := hB.inv.sizes; omega); have hwalk := walk_spec W.heap.size W.heap.size d k X sV fV (-1) key (startOf X d k) (seqOf d k m) w1 hB.q hdl hkl (.inl ⟨rfl, rfl⟩) (hB.inv.chain hdl hkl) (Nat.le_trans (seq_length d k m) hml))
      | (go_at_call 8; refine hwalk.mono ?_; rintro e w2 ⟨v, rfl, hr2, hb2⟩; clear hwalk; have hexp := expect_spec W.heap.size d k key m mv w2 (row_below hB.row hb2) hml hdl)
      | (go_at_call 10; refine hexp.mono ?_; rintro e w3 ⟨v3, rfl, hr3, hb3⟩; clear hexp; have heq := eq_spec v v3 (expectL m d k key) w3 (reads_row (row_below hr2 hb3)) (reads_row hr3) (Nat.le_trans (expect_length m d k key) hml))
      | (go_at_call 9; refine heq.mono ?_; rintro e w4 ⟨rfl, q, rfl⟩; clear heq))
    go_ret
    exact ⟨rfl, below_drewN ((hb1.trans (hb2.mono hb1.size)).trans (hb3.mono (Nat.le_trans hb1.size hb2.size))) q⟩
  · go_enter Yba.func4, Yba.ntmps4
    go_wp2
    go_ret
    exact ⟨rfl, Below.refl _ _⟩

theorem reads_drop {base g cap j : Nat} {m : List Req} {W : World} (h : W.ownsRow base 60 6 (.slice (some ⟨g, 0, none⟩) m.length cap) m.length (reqCells m)) : ReadsAt (.slice (if cap = j + 1 then some ⟨g, 0, none⟩ else some ⟨g, (j + 1) * 6, none⟩) (m.length - (j + 1)) (cap - (j + 1))) (m.drop (j + 1)) W := by
  refine ⟨⟨_, _, by rw [List.length_drop]⟩, ?_⟩
  by_cases hm : m.drop (j + 1) = []
  · exact .inl hm
  · have hlt : j + 1 < m.length := by
      rcases Nat.lt_or_ge (j + 1) m.length with h' | h'
      · exact h'
      · exact absurd (List.drop_eq_nil_of_le h') hm
    have hcap := (ownsRow_block h).2.1
    refine .inr ⟨g, (j + 1) * 6, cap - (j + 1), by rw [if_neg (by omega), List.length_drop], fun i r hi => ?_⟩
    rw [List.getElem?_drop] at hi
    have := row_req h hi
    rw [show (j + 1 + i) * 6 = (j + 1) * 6 + i * 6 by omega] at this
    exact this

theorem QAt.below {base qb : Nat} {X : Q} {sV fV : Value} {W w' : World} (h : QAt base qb X sV fV W) (hB : Below W.heap.size W w') : QAt base qb X sV fV w' := by
  obtain ⟨xs, x1, x2⟩ := h.slots
  exact ⟨h.big, (hB.block _ (lt_of_some h.blk)).trans h.blk, ⟨xs, row_below x1 hB, x2⟩, row_below h.free hB⟩

theorem j_facts {j n vcap : Nat} (hj : j < n) (hel : n ≤ 1024) (hlv : n ≤ vcap) : j + 1 ≤ vcap ∧ j ≤ 1024 ∧ wrap64 ((j : Int) + 1) = j + 1 ∧ ((j : Int) + 1).toNat = j + 1 ∧ (j : Int) + 1 ≤ n ∧ (0 : Int) ≤ (j : Int) + 1 := by
  refine ⟨by omega, by omega, by unfold wrap64; omega, by omega, by omega, by omega⟩

theorem pick_nat (x n : Nat) (hn : 0 < n) (h : n ≤ 1024) : ∃ j : Nat, j < n ∧ wrap64 ((x : Int) % (n : Int)) = (j : Int) := by
  refine ⟨x % n, Nat.mod_lt _ hn, ?_⟩
  have hlt : x % n < n := Nat.mod_lt _ hn
  have : ((x : Int) % (n : Int)) = ((x % n : Nat) : Int) := by norm_cast
  rw [this]
  unfold wrap64
  omega

end Go.Proofs.Ybulkaraw

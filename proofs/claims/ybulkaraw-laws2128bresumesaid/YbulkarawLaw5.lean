/-
  THE WALK OF 'LawS2128BResume'.
-/
import Derived.Test.YbulkarawLaws
namespace Go.Proofs.Ybulkaraw
open Go.RowKit

set_option maxRecDepth 100000 in
set_option maxHeartbeats 1600000 in
theorem law5_spec (so : Option Addr) (b off len cap : Nat) (hso : 0 < len → so = some ⟨b, off, none⟩) (O : Nat → Nat) (A : Nat → Int) (W : World) (hb : 0 < len → b < W.heap.size) (hlc : len ≤ cap)
    (hc0 : ∀ i, i < len → W.cell? ⟨b, off + i * 2, none⟩ = some (.int .u8 (O i)))
    (hc1 : ∀ i, i < len → W.cell? ⟨b, off + i * 2 + 1, none⟩ = some (.int .i64 (A i)))
    (hO : ∀ i, i < len → O i < 256) (hA : ∀ i, i < len → -9223372036854775808 ≤ A i ∧ A i < 9223372036854775808) (D K : Nat) (hD : D < 256) (hK : K < 256) (key : Int) (pick : Nat) :
    Calls Yba.prog 5 #[.slice so len cap, .int .u8 D, .int .u8 K, .int .i64 key, .int .u64 pick] W fun e w' => e = .returned (.bool true) ∧ Below W.heap.size W w' := by
  by_cases hn : len ≤ 1024
  · have hbuild := build_spec so b off len cap hso O A W hb hn hlc hc0 hc1 hO hA
    obtain ⟨d, hd⟩ : ∃ d, d = D % 2 := ⟨_, rfl⟩
    obtain ⟨k, hk⟩ : ∃ k, k = K % 2 := ⟨_, rfl⟩
    have hdl : d < 2 := by omega
    have hkl : k < 2 := by omega
    have hdi : (D : Int) % 2 = d := by omega
    have hki : (K : Int) % 2 = k := by omega
    clear hd hk hc0 hc1 hO hA hso hb
    go_enter Yba.func5, Yba.ntmps5
    go_wp2_with (go_at_call 7; refine hbuild.mono ?_; rintro e w1 ⟨X, m, mv, sV, fV, rfl, hB, hb1⟩; clear hbuild; have hml : m.length ≤ 1024 := (by have := hB.inv.sizes; omega); have hexp := expect_spec W.heap.size d k key m mv w1 hB.row hml hdl)
    refine hexp.mono ?_
    rintro e w2 ⟨v, rfl, hr2, hb2⟩
    clear hexp
    have hel := Nat.le_trans (expect_length m d k key) hml
    have hq2 := hB.q.below hb2
    by_cases hE : (expectL m d k key).length = 0
    · have hwalk := walk_spec W.heap.size W.heap.size d k X sV fV (-1) key (startOf X d k) (seqOf d k m) w2 hq2 hdl hkl (.inl ⟨rfl, rfl⟩) (hB.inv.chain hdl hkl) (Nat.le_trans (seq_length d k m) hml)
      obtain ⟨vo, vcap, hvf⟩ := ownsRow_form hr2
      rw [hE] at hvf
      subst hvf
      have HE : Hid ((expectL m d k key).length = 0) := hE
      clear hE hr2 hel
      go_wp2_with (go_at_call 8; refine hwalk.mono ?_; rintro e w3 ⟨v3, rfl, hr3, hb3⟩; clear hwalk; obtain ⟨xo, xcap, hxf⟩ := ownsRow_form hr3; have hx0 : (List.takeWhile (onSide d key) (seqOf d k m)).length = 0 := HE.out; rw [hx0] at hxf; subst hxf; clear hx0 hr3)
      go_ret
      exact ⟨rfl, (hb1.trans (hb2.mono hb1.size)).trans (hb3.mono (Nat.le_trans hb1.size hb2.size))⟩
    · have hE0 : 0 < (expectL m d k key).length := Nat.pos_of_ne_zero hE
      obtain ⟨vg, vcap, rfl⟩ := ownsRow_value hr2 hE0
      obtain ⟨j, hj, hjx⟩ := pick_nat pick (expectL m d k key).length hE0 hel
      obtain ⟨r, B, hr, hslt, hch, hBl, htw⟩ := hB.inv.resume hdl hkl hj
      have hwalk2 := walk_spec W.heap.size W.heap.size d k X sV fV r.slot key _ B w2 hq2 hdl hkl (.inr ⟨r.slot, rfl, hslt, rfl⟩) hch (Nat.le_trans hBl hml)
      have hcell := (row_req hr2 hr).2.2.2.2.2
      have hlv := (ownsRow_block hr2).2.1
      obtain ⟨hjc, hjm, hjw, hjt, hji, hj0⟩ := j_facts hj hel hlv
      have Htw : Hid (B.takeWhile (onSide d key) = (expectL m d k key).drop (j + 1)) := htw
      have hdl' : ((expectL m d k key).drop (j + 1)).length ≤ 1024 := by rw [List.length_drop]; exact Nat.le_trans (Nat.sub_le _ _) hel
      clear htw hr hch hE
      go_wp2_with fail
      simp only [hjx]
      refine hwalk2.mono ?_
      rintro e w3 ⟨v3, rfl, hr3, hb3⟩
      have hrd := reads_drop (j := j) (row_below hr2 hb3)
      rw [Htw.out] at hr3
      have hrv := reads_row hr3
      clear hwalk2 hjx hcell hslt hBl hq2 hE0 hlc hdi hki hD hK hn hr3 hr2
      obtain ⟨E, hE⟩ : ∃ E, E = expectL m d k key := ⟨_, rfl⟩
      rw [← hE] at hrd hrv hdl' hji hj hel hlv ⊢
      clear hE Htw
      by_cases hcf : vcap = j + 1
      · rw [if_pos hcf] at hrd
        have hel' : E.length = j + 1 := by omega
        rw [hel', hcf, Nat.sub_self] at hrd
        have heq := eq_spec v3 _ _ w3 hrv hrd hdl'
        clear hrd hrv hlv hjc hdl' hji hj hjw hjt hj0
        rw [hel', hcf]
        rw [hel'] at hel
        clear hcf hel'
        obtain ⟨t, ht⟩ : ∃ t, t = j + 1 := ⟨_, rfl⟩
        rw [← ht] at hel ⊢
        have hjt : (j : Int) + 1 = t := by omega
        have htw : wrap64 (t : Int) = t := by unfold wrap64; omega
        clear ht
        go_wp2_with (go_at_call 9; refine heq.mono ?_; rintro e w4 ⟨rfl, q, rfl⟩; clear heq)
        go_ret
        exact ⟨rfl, below_drewN ((hb1.trans (hb2.mono hb1.size)).trans (hb3.mono (Nat.le_trans hb1.size hb2.size))) q⟩
      · rw [if_neg hcf] at hrd
        have heq := eq_spec v3 _ _ w3 hrv hrd hdl'
        clear hrd hrv hlv
        go_wp2_with (go_at_call 9; refine heq.mono ?_; rintro e w4 ⟨rfl, q, rfl⟩; clear heq)
        go_ret
        exact ⟨rfl, below_drewN ((hb1.trans (hb2.mono hb1.size)).trans (hb3.mono (Nat.le_trans hb1.size hb2.size))) q⟩
  · go_enter Yba.func5, Yba.ntmps5
    go_wp2
    go_ret
    exact ⟨rfl, Below.refl _ _⟩
end Go.Proofs.Ybulkaraw

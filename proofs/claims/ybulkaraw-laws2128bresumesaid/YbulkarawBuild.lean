/-
  THE CONTRACT OF 'zzs2128bbuild'.
-/
import Derived.Test.YbulkarawRound
namespace Go.Proofs.Ybulkaraw
open Go.RowKit

theorem pick_lt (x : Int) (n : Nat) (hn : 0 < n) (h : n ≤ 1024) : ∃ j : Nat, j < n ∧ wrap64 ((IntKind.u64.wrap x).tmod (n : Int)) = (j : Int) := by
  have h0 : 0 ≤ IntKind.u64.wrap x := by simp [IntKind.wrap, IntKind.bits, IntKind.signed]; omega
  obtain ⟨k, hk⟩ := Int.eq_ofNat_of_zero_le h0
  refine ⟨k % n, Nat.mod_lt _ hn, ?_⟩
  rw [hk, Int.tmod_eq_emod_of_nonneg (by omega)]
  have hlt : k % n < n := Nat.mod_lt _ hn
  have : ((k : Int) % (n : Int)) = ((k % n : Nat) : Int) := by norm_cast
  rw [this]
  unfold wrap64
  omega

theorem split_at {m : List Req} {j : Nat} (hj : j < m.length) : ∃ A r B, m = A ++ r :: B ∧ A.length = j ∧ m[j]? = some r := by
  refine ⟨m.take j, m[j], m.drop (j + 1), ?_, by simp; omega, by simp [hj]⟩
  rw [← List.drop_eq_getElem_cons hj, List.take_append_drop]

theorem round_remove {base qb c : Nat} {X : Q} {m A B : List Req} {r : Req} {mv sV fV : Value} {wr : World} (h : BAt base qb X m c mv sV fV wr) (hc : c ≤ 1024) (hm : m = A ++ r :: B) (o : Obj) :
    Calls Yba.prog 12 #[.pointer (some ⟨qb, 0, none⟩), .int .i64 r.slot] (wr.alloc o) fun e w1 => e = .returned (.tuple #[]) ∧ ∃ fV', QAt base qb (removeQ X r.slot) sV fV' w1 ∧ w1.ownsRow base 60 6 mv m.length (reqCells m) ∧ Below base wr w1 := by
  have hs := h.size
  have hI := h.inv
  rw [hm] at hI
  have hn : 0 < X.n := Nat.lt_of_le_of_lt (Nat.zero_le _) (hI.at' r (by simp)).1
  obtain ⟨g, cap, rfl⟩ := h.q.value hn
  refine (remove_spec base qb g cap c X A B r fV _ (h.q.alloc o) hI hc (by simp; omega)).mono ?_
  rintro e w1 ⟨rfl, ⟨fV', q'⟩, hb, hk⟩
  exact ⟨rfl, fV', q', hk.row (h.row.alloc o), ((Below.refl base wr).alloc hs _).trans hb⟩

theorem round_delete {base g cap j : Nat} {m A B : List Req} {r : Req} {w1 : World} (h : w1.ownsRow base 60 6 (.slice (some ⟨g, 0, none⟩) m.length cap) m.length (reqCells m)) (hm : m = A ++ r :: B) (hj : A.length = j) (hn : m.length ≤ 1024) :
    Calls Yba.prog 13 #[.slice (some ⟨g, 0, none⟩) m.length cap, .int .i64 j, .int .i64 (j + 1)] w1 fun e w2 => e = .returned (.slice (some ⟨g, 0, none⟩) (A.length + B.length) cap) ∧ w2.ownsRow base 60 6 (.slice (some ⟨g, 0, none⟩) (A.length + B.length) cap) (A ++ B).length (reqCells (A ++ B)) ∧ w1.grownBy w2 (some g) := by
  subst hj
  have hl : m.length = A.length + 1 + B.length := by rw [hm]; simp; omega
  rw [hl] at h hn ⊢
  rw [hm, reqCells_append, reqCells_cons] at h
  refine (delete_spec base g cap A.length B.length (reqCells A) (reqL r) (reqCells B) w1 h (reqCells_length A) rfl (reqCells_length B) (reqCells_one B) hn).mono ?_
  rintro e w2 ⟨rfl, h1, h2⟩
  exact ⟨rfl, by rw [reqCells_append, List.length_append]; exact h1, h2⟩

theorem start_at (W : World) : BAt W.heap.size W.heap.size emptyQ [] 0 (.slice none 0 0) (.slice none 0 0) (.slice none 0 0) (W.alloc (.cells #[.slice none 0 0, .slice none 0 0, .int .i64 0, .int .i64 0, .int .i64 0, .int .i64 0, .int .i64 0, .int .i64 0] 68)) ∧ Below W.heap.size W (W.alloc (.cells #[.slice none 0 0, .slice none 0 0, .int .i64 0, .int .i64 0, .int .i64 0, .int .i64 0, .int .i64 0, .int .i64 0] 68)) := by
  refine ⟨⟨⟨Nat.le_refl _, ?_, ⟨[], World.ownsRow_nil _ _ _ _, fun s hs => absurd hs (Nat.not_lt_zero _)⟩, World.ownsRow_nil _ _ _ _⟩, Inv.start, World.ownsRow_nil _ _ _ _, by simp⟩, (Below.refl _ W).alloc (Nat.le_refl _) _⟩
  show (W.heap.push _)[W.heap.size]? = _
  simp [qcells, emptyQ]

set_option maxRecDepth 100000 in
set_option maxHeartbeats 1600000 in
theorem build_spec (so : Option Addr) (b off len cap : Nat) (hso : 0 < len → so = some ⟨b, off, none⟩) (O : Nat → Nat) (A : Nat → Int) (W : World) (hb : 0 < len → b < W.heap.size) (hn : len ≤ 1024) (hlc : len ≤ cap)
    (hc0 : ∀ i, i < len → W.cell? ⟨b, off + i * 2, none⟩ = some (.int .u8 (O i)))
    (hc1 : ∀ i, i < len → W.cell? ⟨b, off + i * 2 + 1, none⟩ = some (.int .i64 (A i)))
    (hO : ∀ i, i < len → O i < 256) (hA : ∀ i, i < len → -9223372036854775808 ≤ A i ∧ A i < 9223372036854775808) :
    Calls Yba.prog 7 #[.slice so len cap] W fun e w' => ∃ (X : Q) (m : List Req) (mv sV fV : Value), e = .returned (.tuple #[.pointer (some ⟨W.heap.size, 0, none⟩), mv]) ∧ BAt W.heap.size W.heap.size X m len mv sV fV w' ∧ Below W.heap.size W w' := by
  obtain ⟨i0, hti, hz0, hz1, hz2⟩ := info_parts Yba.info60
  have hst := start_at W
  go_enter Yba.func7, Yba.ntmps7
  go_wp2
  obtain ⟨base, hbase⟩ : ∃ base, base = W.heap.size := ⟨_, rfl⟩
  rw [← hbase] at hb hst ⊢
  have Hbase : Hid (base = W.heap.size) := hbase
  go_loopw [5, 6, 17] (fun mv sv iv wr => ∃ (i c : Nat) (X : Q) (m : List Req) (sV fV : Value), iv = .int .i64 i ∧ i ≤ len ∧ sv = .int .i64 c ∧ c ≤ i ∧ BAt base base X m c mv sV fV wr ∧ Below base W wr)
    (fun _ _ iv _ => len - (intOf iv).toNat)
  case atStart =>
    exact ⟨0, 0, emptyQ, [], _, _, rfl, Nat.zero_le _, rfl, Nat.le_refl _, hst.1, hst.2⟩
  case round =>
    obtain ⟨i, c, X, m, sV, fV, rfl, hi, rfl, hci, hB, hBl⟩ := hrel
    clear hbase
    rcases Nat.lt_or_eq_of_le hi with hlt | heq
    · obtain rfl : so = some ⟨b, off, none⟩ := hso (by omega)
      have hb := hb (by omega)
      have hx0 : wr.cell? ⟨b, off + i * 2, none⟩ = some (.int .u8 (O i)) := (hBl.cell (p := ⟨b, _, none⟩) hb).trans (hc0 i hlt)
      have hx1 : wr.cell? ⟨b, off + i * 2 + 1, none⟩ = some (.int .i64 (A i)) := (hBl.cell (p := ⟨b, _, none⟩) hb).trans (hc1 i hlt)
      have ho := hO i hlt
      have ha := hA i hlt
      obtain ⟨o, hoe⟩ : ∃ o, o = O i := ⟨_, rfl⟩
      obtain ⟨x, hxe⟩ : ∃ x, x = A i := ⟨_, rfl⟩
      rw [← hoe] at hx0 ho
      rw [← hxe] at hx1 ha
      clear hc0 hc1 hO hA hoe hxe
      obtain ⟨mo, mcap, rfl⟩ := ownsRow_form hB.row
      have hsz := hB.inv.sizes
      have hsize := hB.size
      by_cases h2 : o % 3 = 2
      · rcases hB.row.2 with ⟨hmv, hm0⟩ | ⟨mg, mc, mcur, hmv, _⟩
        · obtain rfl : m = [] := List.eq_nil_of_length_eq_zero hm0
          go_wp2
          exact ⟨⟨i + 1, c, X, [], sV, fV, by simp, by omega, rfl, by omega, hB.alloc _, hBl.trans ((Below.refl base wr).alloc hsize _)⟩, by simp [intOf]; omega⟩
        · injection hmv with hmo hmn hmc
          subst hmo hmc
          by_cases hm0 : m.length = 0
          · go_wp2
            exact ⟨⟨i + 1, c, X, m, sV, fV, by simp, by omega, rfl, by omega, hB.alloc _, hBl.trans ((Below.refl base wr).alloc hsize _)⟩, by simp [intOf]; omega⟩
          · obtain ⟨j, hj, hjx⟩ := pick_lt x m.length (by omega) (by omega)
            obtain ⟨A', r, B', hm, hA', hmj⟩ := split_at hj
            have hrem := round_remove hB (by omega) hm (.cells #[.int .u8 o, .int .i64 x] 70)
            have hdel := fun (w1 : World) h => round_delete (w1 := w1) (base := base) (g := mg) (cap := mcap) h hm hA' (by omega)
            have hcell := (row_req (hB.row.alloc (.cells #[.int .u8 o, .int .i64 x] 70)) hmj).2.2.2.2.2
            have Hm : Hid (m = A' ++ r :: B') := hm
            have hI := hB.inv
            clear hm hmj hA'
            go_wp2_with (first
              | (go_at_call 12; refine hrem.mono ?_; rintro e w1 ⟨rfl, fV', hq', hrow', hb'⟩; clear hrem)
              | (go_at_call 13; refine (hdel _ hrow').mono ?_; rintro e w2 ⟨rfl, hrow2, hg2⟩; clear hdel))
            have hI' := hI
            rw [Hm.out] at hI'
            have s1 := hb'.size
            have s2 := hg2.size
            exact ⟨⟨i + 1, c, _, A' ++ B', sV, fV', by simp, by omega, rfl, by omega, ⟨hq'.rowGrown hrow' hg2, hI'.remove, hrow2, by omega⟩, hBl.trans (hb'.grown hg2 (by omega) (fun k e => by cases e; exact (hrow'.lt _ rfl).1))⟩, by simp [intOf]; omega⟩
      have hpush := fun (want key : Int) (r' : Req) hr' => round_push hB (by omega) (.cells #[.int .u8 o, .int .i64 x] 70) ⟨i, o, want, c, key, 0⟩ r' hr'
      have hex : ∀ want key : Int, ∃ r' : Req, r' = { (⟨i, o, want, c, key, 0⟩ : Req) with slot := takeSlot X } := fun _ _ => ⟨_, rfl⟩
      have hWW : ∀ (w1 : World) (r' : Req), resWorld w1 (wr.heap.size + 1) r' = (((((w1.setCell ⟨wr.heap.size + 1, 0, none⟩ (.int .i64 r'.txn)).setCell ⟨wr.heap.size + 1, 1, none⟩ (.int .i64 r'.op)).setCell ⟨wr.heap.size + 1, 2, none⟩ (.int .i64 r'.want)).setCell ⟨wr.heap.size + 1, 3, none⟩ (.int .i64 r'.seq)).setCell ⟨wr.heap.size + 1, 4, none⟩ (.int .i64 r'.key)).setCell ⟨wr.heap.size + 1, 5, none⟩ (.int .i64 r'.slot) := fun _ _ => rfl
      have hI := hB.inv
      by_cases h1 : o % 3 = 1
      · rcases hB.row.2 with ⟨hmv, hm0⟩ | ⟨mg, mc, mcur, hmv, _⟩
        · obtain rfl : m = [] := List.eq_nil_of_length_eq_zero hm0
          simp only [List.length_nil] at hmv
          injection hmv with hmo hmn hmc
          subst hmo hmc
          by_cases hw : o / 3 % 2 = 1
          · obtain ⟨r', hr'⟩ := hex 2 (-1 - c)
            have hp := hpush 2 (-1 - c) r' hr'
            have Hr' : Hid (r' = { (⟨i, o, 2, c, (-1 - c), 0⟩ : Req) with slot := takeSlot X }) := hr'
            clear hpush hex hr' hB
            go_wp2_with (first
              | (go_at_call 11; refine hp.mono ?_; rintro e w1 ⟨rfl, hblk, sV', fV', hRP⟩; clear hp; rw [hWW] at hRP; obtain ⟨s0, s1, s2, s3, s4, s5, sf⟩ := req_cells hblk)
              | (at_builtin; refine wpList_append_own_none rfl _ _ 49 rfl base 60 i0 6 Yba.underlying49 hti _ 1 (reqL r') rfl (ownsRow_one (by simp [World.setCell]) hRP.size r') rfl ?_))
            have hone := ownsRow_one (b := w1.heap.size) (by simp [World.setCell]) hRP.size r'
            obtain ⟨b1, b2⟩ := hRP.front hI Hr'.out rfl (b := w1.heap.size) (by simp [World.setCell]) (World.grownBy.refl _ _) (by simpa [reqCells] using hone)
            exact ⟨⟨i + 1, c + 1, _, _, sV', fV', by simp, by omega, by simp, by omega, b1, hBl.trans b2⟩, by simp [intOf]; omega⟩
          · obtain ⟨r', hr'⟩ := hex 0 (-1 - c)
            have hp := hpush 0 (-1 - c) r' hr'
            have Hr' : Hid (r' = { (⟨i, o, 0, c, (-1 - c), 0⟩ : Req) with slot := takeSlot X }) := hr'
            clear hpush hex hr' hB
            go_wp2_with (first
              | (go_at_call 11; refine hp.mono ?_; rintro e w1 ⟨rfl, hblk, sV', fV', hRP⟩; clear hp; rw [hWW] at hRP; obtain ⟨s0, s1, s2, s3, s4, s5, sf⟩ := req_cells hblk)
              | (at_builtin; refine wpList_append_own_none rfl _ _ 49 rfl base 60 i0 6 Yba.underlying49 hti _ 1 (reqL r') rfl (ownsRow_one (by simp [World.setCell]) hRP.size r') rfl ?_))
            have hone := ownsRow_one (b := w1.heap.size) (by simp [World.setCell]) hRP.size r'
            obtain ⟨b1, b2⟩ := hRP.front hI Hr'.out rfl (b := w1.heap.size) (by simp [World.setCell]) (World.grownBy.refl _ _) (by simpa [reqCells] using hone)
            exact ⟨⟨i + 1, c + 1, _, _, sV', fV', by simp, by omega, by simp, by omega, b1, hBl.trans b2⟩, by simp [intOf]; omega⟩
        · injection hmv with hmo hmn hmc
          subst hmo hmc
          by_cases hw : o / 3 % 2 = 1
          · obtain ⟨r', hr'⟩ := hex 2 (-1 - c)
            have hp := hpush 2 (-1 - c) r' hr'
            have Hr' : Hid (r' = { (⟨i, o, 2, c, (-1 - c), 0⟩ : Req) with slot := takeSlot X }) := hr'
            clear hpush hex hr' hB
            go_wp2_with (first
              | (go_at_call 11; refine hp.mono ?_; rintro e w1 ⟨rfl, hblk, sV', fV', hRP⟩; clear hp; rw [hWW] at hRP; obtain ⟨s0, s1, s2, s3, s4, s5, sf⟩ := req_cells hblk)
              | (at_builtin; refine wpList_append_own_at _ rfl _ _ 49 rfl base 60 i0 _ 6 48 Yba.underlying49 hti hz0 hz1 hz2 rfl (by decide) _ 1 (reqL r') rfl (ownsRow_one (by simp [World.setCell]) hRP.size r') ⟨mg, 0, none⟩ m.length mcap (reqCells m) rfl (reqCells_length m) (fun j u hj => (hRP.row.alloc _).cells rfl j u hj) (reqCells_one m) (by unfold maxLen; omega) (by omega) (by have := hRP.size; simp [World.setCell] at this ⊢; omega) ?_; intro v3 w3 hown3 hg3 hnil3 hat3; clear hnil3 hat3; obtain ⟨g3, cap3, hv3⟩ := ownsRow_value hown3 (by omega); rw [hv3] at hown3 ⊢; clear hv3))
            obtain ⟨b1, b2⟩ := hRP.front hI Hr'.out rfl (by simp [World.setCell]) hg3 hown3
            exact ⟨⟨i + 1, c + 1, _, _, sV', fV', by simp, by omega, by simp, by omega, b1, hBl.trans b2⟩, by simp [intOf]; omega⟩
          · obtain ⟨r', hr'⟩ := hex 0 (-1 - c)
            have hp := hpush 0 (-1 - c) r' hr'
            have Hr' : Hid (r' = { (⟨i, o, 0, c, (-1 - c), 0⟩ : Req) with slot := takeSlot X }) := hr'
            clear hpush hex hr' hB
            go_wp2_with (first
              | (go_at_call 11; refine hp.mono ?_; rintro e w1 ⟨rfl, hblk, sV', fV', hRP⟩; clear hp; rw [hWW] at hRP; obtain ⟨s0, s1, s2, s3, s4, s5, sf⟩ := req_cells hblk)
              | (at_builtin; refine wpList_append_own_at _ rfl _ _ 49 rfl base 60 i0 _ 6 48 Yba.underlying49 hti hz0 hz1 hz2 rfl (by decide) _ 1 (reqL r') rfl (ownsRow_one (by simp [World.setCell]) hRP.size r') ⟨mg, 0, none⟩ m.length mcap (reqCells m) rfl (reqCells_length m) (fun j u hj => (hRP.row.alloc _).cells rfl j u hj) (reqCells_one m) (by unfold maxLen; omega) (by omega) (by have := hRP.size; simp [World.setCell] at this ⊢; omega) ?_; intro v3 w3 hown3 hg3 hnil3 hat3; clear hnil3 hat3; obtain ⟨g3, cap3, hv3⟩ := ownsRow_value hown3 (by omega); rw [hv3] at hown3 ⊢; clear hv3))
            obtain ⟨b1, b2⟩ := hRP.front hI Hr'.out rfl (by simp [World.setCell]) hg3 hown3
            exact ⟨⟨i + 1, c + 1, _, _, sV', fV', by simp, by omega, by simp, by omega, b1, hBl.trans b2⟩, by simp [intOf]; omega⟩
      · have h0 : o % 3 = 0 := by omega
        by_cases hw : o / 3 % 2 = 1
        · obtain ⟨r', hr'⟩ := hex 2 c
          have hp := hpush 2 c r' hr'
          have Hr' : Hid (r' = { (⟨i, o, 2, c, c, 0⟩ : Req) with slot := takeSlot X }) := hr'
          clear hpush hex hr' hB
          go_wp2_with (first
            | (go_at_call 11; refine hp.mono ?_; rintro e w1 ⟨rfl, hblk, sV', fV', hRP⟩; clear hp; rw [hWW] at hRP; obtain ⟨s0, s1, s2, s3, s4, s5, sf⟩ := req_cells hblk)
            | (at_builtin; refine wpList_append_own_at _ rfl _ _ 49 rfl base 60 i0 _ 6 48 Yba.underlying49 hti hz0 hz1 hz2 rfl (by decide) _ _ _ rfl (hRP.row.alloc _) ⟨_, 0, none⟩ 1 1 (reqL r') rfl rfl (cells_new _ _ _ (by simp [World.setCell])) (by simp [Value.oneCell']) (by unfold maxLen; omega) (by omega) (by have := hRP.size; simp [World.setCell] at this ⊢; omega) ?_; intro v3 w3 hown3 hg3 hnil3 hat3; clear hnil3 hat3; obtain ⟨g3, cap3, hv3⟩ := ownsRow_value hown3 (by omega); rw [hv3] at hown3 ⊢; clear hv3))
          obtain ⟨b1, b2⟩ := hRP.back hI Hr'.out rfl hg3 hown3
          exact ⟨⟨i + 1, c + 1, _, _, sV', fV', by simp, by omega, by simp, by omega, b1, hBl.trans b2⟩, by simp [intOf]; omega⟩
        · obtain ⟨r', hr'⟩ := hex 0 c
          have hp := hpush 0 c r' hr'
          have Hr' : Hid (r' = { (⟨i, o, 0, c, c, 0⟩ : Req) with slot := takeSlot X }) := hr'
          clear hpush hex hr' hB
          go_wp2_with (first
            | (go_at_call 11; refine hp.mono ?_; rintro e w1 ⟨rfl, hblk, sV', fV', hRP⟩; clear hp; rw [hWW] at hRP; obtain ⟨s0, s1, s2, s3, s4, s5, sf⟩ := req_cells hblk)
            | (at_builtin; refine wpList_append_own_at _ rfl _ _ 49 rfl base 60 i0 _ 6 48 Yba.underlying49 hti hz0 hz1 hz2 rfl (by decide) _ _ _ rfl (hRP.row.alloc _) ⟨_, 0, none⟩ 1 1 (reqL r') rfl rfl (cells_new _ _ _ (by simp [World.setCell])) (by simp [Value.oneCell']) (by unfold maxLen; omega) (by omega) (by have := hRP.size; simp [World.setCell] at this ⊢; omega) ?_; intro v3 w3 hown3 hg3 hnil3 hat3; clear hnil3 hat3; obtain ⟨g3, cap3, hv3⟩ := ownsRow_value hown3 (by omega); rw [hv3] at hown3 ⊢; clear hv3))
          obtain ⟨b1, b2⟩ := hRP.back hI Hr'.out rfl hg3 hown3
          exact ⟨⟨i + 1, c + 1, _, _, sV', fV', by simp, by omega, by simp, by omega, b1, hBl.trans b2⟩, by simp [intOf]; omega⟩
    · subst heq
      go_wp2
      go_ret2
      rw [← Hbase.out]
      exact ⟨X, m, _, sV, fV, rfl, hB.wider hci, hBl⟩
end Go.Proofs.Ybulkaraw

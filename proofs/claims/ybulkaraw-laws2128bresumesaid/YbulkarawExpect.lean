/-
  THE CONTRACT OF 'zzs2128bexpect'.
-/
import Derived.Test.YbulkarawWalk
namespace Go.Proofs.Ybulkaraw
open Go.RowKit

def wants (k : Nat) (r : Req) : Bool := decide (k = 0) || decide (r.want = 2)

theorem orderOf_eq (k : Nat) (m : List Req) : orderOf k m = m.filter (wants k) := by
  unfold orderOf exclusive
  split
  · rename_i h
    subst h
    rw [List.filter_eq_self.2]
    intro a _
    rfl
  · rename_i h
    congr 1
    funext r
    simp [wants, h]

theorem take_next {α : Type} {L : List α} {i : Nat} {x : α} (h : L[i]? = some x) : L.take (i + 1) = L.take i ++ [x] := by
  rw [List.take_add_one, h]
  rfl

theorem takeWhile_take {α : Type} (p : α → Bool) : ∀ (L : List α) (i : Nat), (∀ x ∈ L.take i, p x = true) → (∀ x, L[i]? = some x → p x = false) → L.takeWhile p = L.take i
  | [], _, _, _ => by simp
  | a :: L, 0, _, h2 => by
    have := h2 a rfl
    rw [List.takeWhile_cons_of_neg (by simp [this])]
    rfl
  | a :: L, i + 1, h1, h2 => by
    rw [List.takeWhile_cons_of_pos (h1 a (by simp)), takeWhile_take p L i (fun x hx => h1 x (by simp [hx])) (fun x hx => h2 x (by simpa using hx))]
    rfl

/-- A slice read in a later world. -/
theorem row_later {W w' : World} {B base g cap n : Nat} {m : List Req} {i : Nat} {r : Req} (h : W.ownsRow base 60 6 (.slice (some ⟨g, 0, none⟩) n cap) n (reqCells m)) (hB : Below B W w') (hg : g < B) (hi : m[i]? = some r) :
    w'.cell? ⟨g, i * 6, none⟩ = some (N64 r.txn) ∧ w'.cell? ⟨g, i * 6 + 1, none⟩ = some (N64 r.op) ∧ w'.cell? ⟨g, i * 6 + 2, none⟩ = some (N64 r.want) ∧ w'.cell? ⟨g, i * 6 + 3, none⟩ = some (N64 r.seq) ∧ w'.cell? ⟨g, i * 6 + 4, none⟩ = some (N64 r.key) ∧ w'.cell? ⟨g, i * 6 + 5, none⟩ = some (N64 r.slot) := by
  obtain ⟨a0, a1, a2, a3, a4, a5⟩ := row_req h hi
  exact ⟨(hB.cell (p := ⟨g, _, none⟩) hg).trans a0, (hB.cell (p := ⟨g, _, none⟩) hg).trans a1, (hB.cell (p := ⟨g, _, none⟩) hg).trans a2, (hB.cell (p := ⟨g, _, none⟩) hg).trans a3, (hB.cell (p := ⟨g, _, none⟩) hg).trans a4, (hB.cell (p := ⟨g, _, none⟩) hg).trans a5⟩

/-- Behind 'out = append(out, r)': r's own block, the one-element slice, the append. -/
theorem row_next {base n1 : Nat} {W wr w3 : World} {ov v3 : Value} {L : List Req} {r : Req} {o1 o2 : Obj} (hB : Below n1 W wr) (hsz : n1 ≤ wr.heap.size) (hb : n1 ≤ base) (hrow : wr.ownsRow base 60 6 ov L.length (reqCells L)) (hg : ((wr.alloc o1).alloc o2).grownBy w3 ov.ownBlock) (hown : w3.ownsRow base 60 6 v3 (L.length + 1) (reqCells L ++ reqL r)) :
    w3.ownsRow base 60 6 v3 (L ++ [r]).length (reqCells (L ++ [r])) ∧ Below n1 W w3 ∧ wr.heap.size ≤ w3.heap.size := by
  refine ⟨by simpa [reqCells_append, reqCells] using hown, ((hB.alloc hsz _).alloc (by simp; omega) _).grown hg (by simp; omega) (fun j e => Nat.le_trans hb (hrow.lt j e).1), ?_⟩
  have := hg.size
  simp at this
  omega

set_option maxRecDepth 100000 in
set_option maxHeartbeats 1600000 in
theorem expect_spec0 (base k : Nat) (key : Int) (m : List Req) (mv : Value) (W : World) (hm : W.ownsRow base 60 6 mv m.length (reqCells m)) (hn : m.length ≤ 1024) :
    Calls Yba.prog 10 #[mv, .int .i64 0, .int .i64 k, .int .i64 key] W fun e w' => ∃ v, e = .returned v ∧ w'.ownsRow W.heap.size 60 6 v (expectL m 0 k key).length (reqCells (expectL m 0 k key)) ∧ Below W.heap.size W w' := by
  obtain ⟨i0, hti, hz0, hz1, hz2⟩ := info_parts Yba.info60
  obtain ⟨mo, mcap, rfl⟩ := ownsRow_form hm
  obtain ⟨nW, hnW⟩ : ∃ nW, nW = W.heap.size := ⟨_, rfl⟩
  have HnW : Hid (nW = W.heap.size) := hnW
  rw [← hnW]
  clear hnW
  go_enter Yba.func10, Yba.ntmps10
  go_wp2
  go_loopw [9, 18] (fun ov iv wr => ∃ i : Nat, iv = .int .i64 i ∧ i ≤ m.length ∧ wr.ownsRow nW 60 6 ov ((m.take i).filter (wants k)).length (reqCells ((m.take i).filter (wants k))) ∧ Below nW W wr ∧ nW ≤ wr.heap.size) (fun _ iv _ => m.length - (intOf iv).toNat)
  case atStart => exact ⟨0, rfl, Nat.zero_le _, World.ownsRow_nil _ _ _ _, Below.refl _ _, Nat.le_of_eq HnW.out⟩
  case round =>
    obtain ⟨i, rfl, hi, hrow, hB, hsz⟩ := hrel
    rcases Nat.lt_or_eq_of_le hi with hlt | heq
    · obtain ⟨g, cap, hgv⟩ := ownsRow_value hm (by omega)
      injection hgv with hmo _ hmc
      subst hmo hmc
      have hgl : g < nW := by rw [HnW.out]; exact (hm.lt g rfl).2
      obtain ⟨r, hmi⟩ : ∃ r, m[i]? = some r := ⟨m[i], by simp [hlt]⟩
      obtain ⟨a0, a1, a2, a3, a4, a5⟩ := row_later hm hB hgl hmi
      have htk := take_next hmi
      obtain ⟨L, hL⟩ : ∃ L, L = (m.take i).filter (wants k) := ⟨_, rfl⟩
      have hLn : L.length ≤ i := by rw [hL]; exact Nat.le_trans (List.length_filter_le _ _) (by simp; omega)
      rw [← hL] at hrow
      obtain ⟨oo, ocap, rfl⟩ := ownsRow_form hrow
      have HL : Hid (L = (m.take i).filter (wants k)) := hL
      clear hL hmi
      by_cases hw : k = 0 ∨ r.want = 2
      · have hnx : (m.take (i + 1)).filter (wants k) = L ++ [r] := by
          rw [htk, List.filter_append, ← HL.out]
          simp [wants, hw]
        have Hnx : Hid ((m.take (i + 1)).filter (wants k) = L ++ [r]) := hnx
        clear hnx htk
        by_cases hk0 : k = 0
        · have hkb : ((k : Int) == 0) = true := by simp [hk0]
          clear hk0 hw
          go_wp2_with (at_builtin; refine wpList_append_own_at _ rfl _ _ 49 rfl nW 60 i0 _ 6 48 Yba.underlying49 hti hz0 hz1 hz2 rfl (by decide) _ _ _ rfl ((hrow.alloc _).alloc _) ⟨_, 0, none⟩ 1 1 (reqL r) rfl rfl (cells_new _ _ _ (by simp)) (by simp [Value.oneCell']) (by unfold maxLen; omega) (by omega) (by simp; omega) ?_; intro v3 w3 hown3 hg3 hnil3 hat3; clear hnil3 hat3; obtain ⟨g3, cap3, hv3⟩ := ownsRow_value hown3 (by omega); rw [hv3] at hown3 ⊢; clear hv3)
          obtain ⟨b1, b2, b3⟩ := row_next hB hsz (Nat.le_refl _) hrow hg3 hown3
          exact ⟨⟨i + 1, by simp, by omega, by rw [Hnx.out]; exact b1, b2, by omega⟩, by simp [intOf]; omega⟩
        · have hkb : ((k : Int) == 0) = false := by simp; omega
          have hwb : (r.want == 2) = true := by simp [hw.resolve_left hk0]
          clear hk0 hw
          go_wp2_with (at_builtin; refine wpList_append_own_at _ rfl _ _ 49 rfl nW 60 i0 _ 6 48 Yba.underlying49 hti hz0 hz1 hz2 rfl (by decide) _ _ _ rfl ((hrow.alloc _).alloc _) ⟨_, 0, none⟩ 1 1 (reqL r) rfl rfl (cells_new _ _ _ (by simp)) (by simp [Value.oneCell']) (by unfold maxLen; omega) (by omega) (by simp; omega) ?_; intro v3 w3 hown3 hg3 hnil3 hat3; clear hnil3 hat3; obtain ⟨g3, cap3, hv3⟩ := ownsRow_value hown3 (by omega); rw [hv3] at hown3 ⊢; clear hv3)
          obtain ⟨b1, b2, b3⟩ := row_next hB hsz (Nat.le_refl _) hrow hg3 hown3
          exact ⟨⟨i + 1, by simp, by omega, by rw [Hnx.out]; exact b1, b2, by omega⟩, by simp [intOf]; omega⟩
      · have hnx : (m.take (i + 1)).filter (wants k) = L := by
          rw [htk, List.filter_append, ← HL.out]
          simp [wants, hw]
        have Hnx : Hid ((m.take (i + 1)).filter (wants k) = L) := hnx
        clear hnx htk
        have hkb : ((k : Int) == 0) = false := by simp; omega
        have hwb : (r.want == 2) = false := by simp; omega
        clear hw
        go_wp2
        exact ⟨⟨i + 1, by simp, by omega, by rw [Hnx.out]; exact hrow.alloc _, hB.alloc hsz _, by simp; omega⟩, by simp [intOf]; omega⟩
    · subst heq
      rw [List.take_length] at hrow
      obtain ⟨L, hL⟩ : ∃ L, L = m.filter (wants k) := ⟨_, rfl⟩
      have hLn : L.length ≤ m.length := by rw [hL]; exact List.length_filter_le _ _
      rw [← hL] at hrow
      have HL : Hid (L = m.filter (wants k)) := hL
      clear hL
      obtain ⟨oo, ocap, rfl⟩ := ownsRow_form hrow
      obtain ⟨n1, hn1⟩ : ∃ n1, n1 = wr.heap.size := ⟨_, rfl⟩
      have Hn1 : Hid (n1 = wr.heap.size) := hn1
      have hW1 : nW ≤ n1 := by omega
      clear hn1
      have hLrow := hrow
      have hBW := hB
      have hSeq : expectL m 0 k key = (L).takeWhile (onSide 0 key) := by
        rw [HL.out, ← orderOf_eq]
        rfl
      have HSeq : Hid (expectL m 0 k key = (L).takeWhile (onSide 0 key)) := hSeq
      clear hSeq hrow hB
      go_wp2
      go_loopw [12, 13] (fun ov iv w2 => ∃ i : Nat, iv = .int .i64 i ∧ i ≤ L.length ∧ (∀ x ∈ (L).take i, onSide 0 key x = true) ∧ w2.ownsRow n1 60 6 ov ((L).take i).length (reqCells ((L).take i)) ∧ Below n1 wr w2 ∧ n1 ≤ w2.heap.size) (fun _ iv _ => L.length - (intOf iv).toNat)
      case atStart => exact ⟨0, rfl, Nat.zero_le _, by simp, World.ownsRow_nil _ _ _ _, Below.refl _ _, Nat.le_of_eq Hn1.out⟩
      case round =>
        obtain ⟨i, rfl, hi, hall, hrow, hB, hsz2⟩ := hrel
        rcases Nat.lt_or_eq_of_le hi with hlt | heq
        · obtain ⟨g, cap, hgv⟩ := ownsRow_value hLrow (by omega)
          injection hgv with hmo _ hmc
          subst hmo hmc
          have hgl : g < n1 := by rw [Hn1.out]; exact (hLrow.lt g rfl).2
          obtain ⟨r, hsi⟩ : ∃ r, L[i]? = some r := ⟨L[i], by simp [hlt]⟩
          obtain ⟨a0, a1, a2, a3, a4, a5⟩ := row_later hLrow hB hgl hsi
          have htk := take_next hsi
          have hsl : (L).length = L.length := by simp
          obtain ⟨T, hT⟩ : ∃ T, T = (L).take i := ⟨_, rfl⟩
          have hTn : T.length ≤ 1024 := by rw [hT]; simp; omega
          rw [← hT] at hrow hall htk
          obtain ⟨xo, xcap, rfl⟩ := ownsRow_form hrow
          have HT : Hid (T = (L).take i) := hT
          have Htk : Hid ((L).take (i + 1) = T ++ [r]) := htk
          have Hsi : Hid ((L)[i]? = some r) := hsi
          clear hT htk hsi
          by_cases hon : r.key < key
          · have hons : onSide 0 key r = true := by simp [onSide, hon]
            go_wp2_with (at_builtin; refine wpList_append_own_at _ rfl _ _ 49 rfl n1 60 i0 _ 6 48 Yba.underlying49 hti hz0 hz1 hz2 rfl (by decide) _ _ _ rfl ((hrow.alloc _).alloc _) ⟨_, 0, none⟩ 1 1 (reqL r) rfl rfl (cells_new _ _ _ (by simp)) (by simp [Value.oneCell']) (by unfold maxLen; omega) (by omega) (by simp; omega) ?_; intro v3 w3 hown3 hg3 hnil3 hat3; clear hnil3 hat3; obtain ⟨g3, cap3, hv3⟩ := ownsRow_value hown3 (by omega); rw [hv3] at hown3 ⊢; clear hv3)
            obtain ⟨b1, b2, b3⟩ := row_next hB hsz2 (Nat.le_refl _) hrow hg3 hown3
            refine ⟨⟨i + 1, by simp, by omega, ?_, by rw [Htk.out]; exact b1, b2, by omega⟩, by simp [intOf]; omega⟩
            rw [Htk.out]
            intro x hx
            rcases List.mem_append.1 hx with hx | hx
            · exact hall x hx
            · simp at hx
              subst hx
              exact hons
          · have hons : onSide 0 key r = false := by simp [onSide]; omega
            go_wp2
            go_ret
            have hE : expectL m 0 k key = T := by
              rw [HSeq.out, HT.out]
              exact takeWhile_take _ _ _ (by rw [← HT.out]; exact hall) (fun x hx => by rw [Hsi.out] at hx; cases hx; exact hons)
            rw [hE]
            exact ⟨_, rfl, row_mono (hrow.alloc _) hW1, hBW.trans ((hB.alloc hsz2 _).mono hW1)⟩
        · subst heq
          have hsl : (L).length = L.length := by simp
          have hE : expectL m 0 k key = (L).take L.length := by
            rw [HSeq.out]
            exact takeWhile_take _ _ _ hall (fun x hx => by have := (List.getElem?_eq_some_iff.1 hx).1; omega)
          have HE : Hid (expectL m 0 k key = (L).take L.length) := hE
          clear hE
          obtain ⟨T, hT⟩ : ∃ T, T = (L).take L.length := ⟨_, rfl⟩
          rw [← hT] at hrow HE
          clear hT
          obtain ⟨xo, xcap, rfl⟩ := ownsRow_form hrow
          go_wp2
          go_ret
          rw [HE.out]
          exact ⟨_, rfl, row_mono hrow hW1, hBW.trans (hB.mono hW1)⟩

set_option maxRecDepth 100000 in
set_option maxHeartbeats 1600000 in
theorem expect_spec1 (base k : Nat) (key : Int) (m : List Req) (mv : Value) (W : World) (hm : W.ownsRow base 60 6 mv m.length (reqCells m)) (hn : m.length ≤ 1024) :
    Calls Yba.prog 10 #[mv, .int .i64 1, .int .i64 k, .int .i64 key] W fun e w' => ∃ v, e = .returned v ∧ w'.ownsRow W.heap.size 60 6 v (expectL m 1 k key).length (reqCells (expectL m 1 k key)) ∧ Below W.heap.size W w' := by
  obtain ⟨i0, hti, hz0, hz1, hz2⟩ := info_parts Yba.info60
  obtain ⟨mo, mcap, rfl⟩ := ownsRow_form hm
  obtain ⟨nW, hnW⟩ : ∃ nW, nW = W.heap.size := ⟨_, rfl⟩
  have HnW : Hid (nW = W.heap.size) := hnW
  rw [← hnW]
  clear hnW
  go_enter Yba.func10, Yba.ntmps10
  go_wp2
  go_loopw [9, 18] (fun ov iv wr => ∃ i : Nat, iv = .int .i64 i ∧ i ≤ m.length ∧ wr.ownsRow nW 60 6 ov ((m.take i).filter (wants k)).length (reqCells ((m.take i).filter (wants k))) ∧ Below nW W wr ∧ nW ≤ wr.heap.size) (fun _ iv _ => m.length - (intOf iv).toNat)
  case atStart => exact ⟨0, rfl, Nat.zero_le _, World.ownsRow_nil _ _ _ _, Below.refl _ _, Nat.le_of_eq HnW.out⟩
  case round =>
    obtain ⟨i, rfl, hi, hrow, hB, hsz⟩ := hrel
    rcases Nat.lt_or_eq_of_le hi with hlt | heq
    · obtain ⟨g, cap, hgv⟩ := ownsRow_value hm (by omega)
      injection hgv with hmo _ hmc
      subst hmo hmc
      have hgl : g < nW := by rw [HnW.out]; exact (hm.lt g rfl).2
      obtain ⟨r, hmi⟩ : ∃ r, m[i]? = some r := ⟨m[i], by simp [hlt]⟩
      obtain ⟨a0, a1, a2, a3, a4, a5⟩ := row_later hm hB hgl hmi
      have htk := take_next hmi
      obtain ⟨L, hL⟩ : ∃ L, L = (m.take i).filter (wants k) := ⟨_, rfl⟩
      have hLn : L.length ≤ i := by rw [hL]; exact Nat.le_trans (List.length_filter_le _ _) (by simp; omega)
      rw [← hL] at hrow
      obtain ⟨oo, ocap, rfl⟩ := ownsRow_form hrow
      have HL : Hid (L = (m.take i).filter (wants k)) := hL
      clear hL hmi
      by_cases hw : k = 0 ∨ r.want = 2
      · have hnx : (m.take (i + 1)).filter (wants k) = L ++ [r] := by
          rw [htk, List.filter_append, ← HL.out]
          simp [wants, hw]
        have Hnx : Hid ((m.take (i + 1)).filter (wants k) = L ++ [r]) := hnx
        clear hnx htk
        by_cases hk0 : k = 0
        · have hkb : ((k : Int) == 0) = true := by simp [hk0]
          clear hk0 hw
          go_wp2_with (at_builtin; refine wpList_append_own_at _ rfl _ _ 49 rfl nW 60 i0 _ 6 48 Yba.underlying49 hti hz0 hz1 hz2 rfl (by decide) _ _ _ rfl ((hrow.alloc _).alloc _) ⟨_, 0, none⟩ 1 1 (reqL r) rfl rfl (cells_new _ _ _ (by simp)) (by simp [Value.oneCell']) (by unfold maxLen; omega) (by omega) (by simp; omega) ?_; intro v3 w3 hown3 hg3 hnil3 hat3; clear hnil3 hat3; obtain ⟨g3, cap3, hv3⟩ := ownsRow_value hown3 (by omega); rw [hv3] at hown3 ⊢; clear hv3)
          obtain ⟨b1, b2, b3⟩ := row_next hB hsz (Nat.le_refl _) hrow hg3 hown3
          exact ⟨⟨i + 1, by simp, by omega, by rw [Hnx.out]; exact b1, b2, by omega⟩, by simp [intOf]; omega⟩
        · have hkb : ((k : Int) == 0) = false := by simp; omega
          have hwb : (r.want == 2) = true := by simp [hw.resolve_left hk0]
          clear hk0 hw
          go_wp2_with (at_builtin; refine wpList_append_own_at _ rfl _ _ 49 rfl nW 60 i0 _ 6 48 Yba.underlying49 hti hz0 hz1 hz2 rfl (by decide) _ _ _ rfl ((hrow.alloc _).alloc _) ⟨_, 0, none⟩ 1 1 (reqL r) rfl rfl (cells_new _ _ _ (by simp)) (by simp [Value.oneCell']) (by unfold maxLen; omega) (by omega) (by simp; omega) ?_; intro v3 w3 hown3 hg3 hnil3 hat3; clear hnil3 hat3; obtain ⟨g3, cap3, hv3⟩ := ownsRow_value hown3 (by omega); rw [hv3] at hown3 ⊢; clear hv3)
          obtain ⟨b1, b2, b3⟩ := row_next hB hsz (Nat.le_refl _) hrow hg3 hown3
          exact ⟨⟨i + 1, by simp, by omega, by rw [Hnx.out]; exact b1, b2, by omega⟩, by simp [intOf]; omega⟩
      · have hnx : (m.take (i + 1)).filter (wants k) = L := by
          rw [htk, List.filter_append, ← HL.out]
          simp [wants, hw]
        have Hnx : Hid ((m.take (i + 1)).filter (wants k) = L) := hnx
        clear hnx htk
        have hkb : ((k : Int) == 0) = false := by simp; omega
        have hwb : (r.want == 2) = false := by simp; omega
        clear hw
        go_wp2
        exact ⟨⟨i + 1, by simp, by omega, by rw [Hnx.out]; exact hrow.alloc _, hB.alloc hsz _, by simp; omega⟩, by simp [intOf]; omega⟩
    · subst heq
      rw [List.take_length] at hrow
      obtain ⟨L, hL⟩ : ∃ L, L = m.filter (wants k) := ⟨_, rfl⟩
      have hLn : L.length ≤ m.length := by rw [hL]; exact List.length_filter_le _ _
      rw [← hL] at hrow
      have HL : Hid (L = m.filter (wants k)) := hL
      clear hL
      obtain ⟨oo, ocap, rfl⟩ := ownsRow_form hrow
      obtain ⟨n1, hn1⟩ : ∃ n1, n1 = wr.heap.size := ⟨_, rfl⟩
      have Hn1 : Hid (n1 = wr.heap.size) := hn1
      have hW1 : nW ≤ n1 := by omega
      clear hn1
      have hLrow := hrow
      have hBW := hB
      have hSeq : expectL m 1 k key = (L.reverse).takeWhile (onSide 1 key) := by
        rw [HL.out, ← orderOf_eq]
        rfl
      have HSeq : Hid (expectL m 1 k key = (L.reverse).takeWhile (onSide 1 key)) := hSeq
      clear hSeq hrow hB
      go_wp2
      go_loopw [12, 13] (fun ov iv w2 => ∃ i : Nat, iv = .int .i64 i ∧ i ≤ L.length ∧ (∀ x ∈ (L.reverse).take i, onSide 1 key x = true) ∧ w2.ownsRow n1 60 6 ov ((L.reverse).take i).length (reqCells ((L.reverse).take i)) ∧ Below n1 wr w2 ∧ n1 ≤ w2.heap.size) (fun _ iv _ => L.length - (intOf iv).toNat)
      case atStart => exact ⟨0, rfl, Nat.zero_le _, by simp, World.ownsRow_nil _ _ _ _, Below.refl _ _, Nat.le_of_eq Hn1.out⟩
      case round =>
        obtain ⟨i, rfl, hi, hall, hrow, hB, hsz2⟩ := hrel
        rcases Nat.lt_or_eq_of_le hi with hlt | heq
        · obtain ⟨g, cap, hgv⟩ := ownsRow_value hLrow (by omega)
          injection hgv with hmo _ hmc
          subst hmo hmc
          have hgl : g < n1 := by rw [Hn1.out]; exact (hLrow.lt g rfl).2
          obtain ⟨r0, hs0⟩ : ∃ r0, L[i]? = some r0 := ⟨L[i], by simp [hlt]⟩
          obtain ⟨e0, e1, e2, e3, e4, e5⟩ := row_later hLrow hB hgl hs0
          obtain ⟨j, hj⟩ : ∃ j, j + i + 1 = L.length := ⟨L.length - 1 - i, by omega⟩
          obtain ⟨r, hsj⟩ : ∃ r, L[j]? = some r := ⟨L[j]'(by omega), by simp [show j < L.length by omega]⟩
          obtain ⟨a0, a1, a2, a3, a4, a5⟩ := row_later hLrow hB hgl hsj
          have hsi : L.reverse[i]? = some r := by rw [List.getElem?_reverse hlt, show L.length - 1 - i = j by omega]; exact hsj
          have hji : (L.length : Int) - 1 - i = j := by omega
          have hgw : g < wr.heap.size := Nat.lt_of_lt_of_le hgl hsz2
          have hjl : j < L.length := by omega
          clear hs0 hsj hj
          have htk := take_next hsi
          have hsl : (L.reverse).length = L.length := by simp
          obtain ⟨T, hT⟩ : ∃ T, T = (L.reverse).take i := ⟨_, rfl⟩
          have hTn : T.length ≤ 1024 := by rw [hT]; simp; omega
          rw [← hT] at hrow hall htk
          obtain ⟨xo, xcap, rfl⟩ := ownsRow_form hrow
          have HT : Hid (T = (L.reverse).take i) := hT
          have Htk : Hid ((L.reverse).take (i + 1) = T ++ [r]) := htk
          have Hsi : Hid ((L.reverse)[i]? = some r) := hsi
          clear hT htk hsi
          by_cases hon : key < r.key
          · have hons : onSide 1 key r = true := by simp [onSide, hon]
            go_wp2_with (at_builtin; refine wpList_append_own_at _ rfl _ _ 49 rfl n1 60 i0 _ 6 48 Yba.underlying49 hti hz0 hz1 hz2 rfl (by decide) _ _ _ rfl ((hrow.alloc _).alloc _) ⟨_, 0, none⟩ 1 1 (reqL r) rfl rfl (cells_new _ _ _ (by simp)) (by simp [Value.oneCell']) (by unfold maxLen; omega) (by omega) (by simp; omega) ?_; intro v3 w3 hown3 hg3 hnil3 hat3; clear hnil3 hat3; obtain ⟨g3, cap3, hv3⟩ := ownsRow_value hown3 (by omega); rw [hv3] at hown3 ⊢; clear hv3)
            obtain ⟨b1, b2, b3⟩ := row_next hB hsz2 (Nat.le_refl _) hrow hg3 hown3
            refine ⟨⟨i + 1, by simp, by omega, ?_, by rw [Htk.out]; exact b1, b2, by omega⟩, by simp [intOf]; omega⟩
            rw [Htk.out]
            intro x hx
            rcases List.mem_append.1 hx with hx | hx
            · exact hall x hx
            · simp at hx
              subst hx
              exact hons
          · have hons : onSide 1 key r = false := by simp [onSide]; omega
            go_wp2
            go_ret
            have hE : expectL m 1 k key = T := by
              rw [HSeq.out, HT.out]
              exact takeWhile_take _ _ _ (by rw [← HT.out]; exact hall) (fun x hx => by rw [Hsi.out] at hx; cases hx; exact hons)
            rw [hE]
            exact ⟨_, rfl, row_mono (hrow.alloc _) hW1, hBW.trans ((hB.alloc hsz2 _).mono hW1)⟩
        · subst heq
          have hsl : (L.reverse).length = L.length := by simp
          have hE : expectL m 1 k key = (L.reverse).take L.length := by
            rw [HSeq.out]
            exact takeWhile_take _ _ _ hall (fun x hx => by have := (List.getElem?_eq_some_iff.1 hx).1; omega)
          have HE : Hid (expectL m 1 k key = (L.reverse).take L.length) := hE
          clear hE
          obtain ⟨T, hT⟩ : ∃ T, T = (L.reverse).take L.length := ⟨_, rfl⟩
          rw [← hT] at hrow HE
          clear hT
          obtain ⟨xo, xcap, rfl⟩ := ownsRow_form hrow
          go_wp2
          go_ret
          rw [HE.out]
          exact ⟨_, rfl, row_mono hrow hW1, hBW.trans (hB.mono hW1)⟩

theorem expect_spec (base d k : Nat) (key : Int) (m : List Req) (mv : Value) (W : World) (hm : W.ownsRow base 60 6 mv m.length (reqCells m)) (hn : m.length ≤ 1024) (hd : d < 2) :
    Calls Yba.prog 10 #[mv, .int .i64 d, .int .i64 k, .int .i64 key] W fun e w' => ∃ v, e = .returned v ∧ w'.ownsRow W.heap.size 60 6 v (expectL m d k key).length (reqCells (expectL m d k key)) ∧ Below W.heap.size W w' := by
  have : d = 0 ∨ d = 1 := by omega
  rcases this with rfl | rfl
  · exact expect_spec0 base k key m mv W hm hn
  · exact expect_spec1 base k key m mv W hm hn
end Go.Proofs.Ybulkaraw

/-
  THE WALK OF 'LawS2125CFiled'.
-/
import Derived.Test.YbulkaqzgFmtByIndex
import Derived.Test.YbulkaqzgFmtLaw1
import Derived.Test.YbulkaqzgFmtShelf
import Derived.Test.YbulkaqzgFmtPlain
import Derived.Sort.OwnSorted
namespace Go.Proofs.YbulkaqzgFmt
open Go.RowKit Go.StrMap

theorem filed_long (ao : Option Addr) (n cap : Nat) (q : Nat) (w : World) (hn : 1024 < n) (hm : n ≤ maxLen) :
    Calls Ybaf.prog 3 #[.slice ao n cap, .int .u8 q] w fun e w' => e = .returned (.bool true) ∧ Below w.heap.size w w' := by
  unfold maxLen at hm
  go_enter Ybaf.func3, Ybaf.ntmps3
  go_wp2
  go_ret
  exact ⟨rfl, Below.refl _ _⟩

theorem byIndex_all (B : Nat) (ps : List (Nat × Nat)) (x xi xm : Nat) (ob sb : ByteArray → Nat) (vv : ByteArray → Value) (v : ByteArray) (w : World) (hn : ps.length ≤ 1024)
    (hS : Store B w ps x xi xm ob sb vv) :
    Calls Ybaf.prog 7 #[.pointer (some ⟨x, 0, none⟩), .string idx, .string v] w fun e w' => ∃ (g cap : Nat) (ks : List ByteArray), ks.Perm (sKeys ps v) ∧ e = .returned (.tuple #[.slice (some ⟨g, 0, none⟩) ks.length cap, .nilIface]) ∧
      w'.ownsRow (x + 1) 33 1 (.slice (some ⟨g, 0, none⟩) ks.length cap) ks.length (ks.map (oVal ob)) ∧ Below x w w' := by
  by_cases hv : v ∈ vVals ps
  · exact byIndex_some B ps x xi xm ob sb vv v w hn hS hv
  · refine (byIndex_none B ps x xi xm ob sb vv v w hS hv).mono ?_
    rintro e w' ⟨g, cap, rfl, h1, h2⟩
    exact ⟨g, cap, [], by rw [sKeys_none hv], rfl, h1, h2⟩

theorem row_ne_row {w : World} {base base' e e' n n' : Nat} {v v' : Value} {xs xs' : List Value} (he : e ≠ e') (h : w.ownsRow base e 1 v n xs) (h' : w.ownsRow base' e' 1 v' n' xs') : v.ownBlock = none ∨ v.ownBlock ≠ v'.ownBlock := by
  rcases h.2 with ⟨rfl, _⟩ | ⟨g, cap, cur, rfl, _, h5, _⟩
  · exact .inl rfl
  · right
    intro e1
    rcases h'.2 with ⟨rfl, _⟩ | ⟨g', cap', cur', rfl, _, h5', _⟩
    · simp [Value.ownBlock] at e1
    · simp [Value.ownBlock] at e1
      subst e1
      rw [h5] at h5'
      simp at h5'
      exact he h5'.2

theorem row_at {w : World} {base e n cap g : Nat} {xs : List Value} (h : w.ownsRow base e 1 (.slice (some ⟨g, 0, none⟩) n cap) n xs) {j : Nat} {u : Value} (hj : xs[j]? = some u) : w.cell? ⟨g, j, none⟩ = some u := by
  have := h.cells (g := g) rfl j u hj
  unfold Addr.add at this
  split at this
  · rename_i h0; subst h0; exact this
  · simpa using this

/-- sort.Strings ON A ROW OF THE CALL's OWN. -/
theorem sort_row (base g cap : Nat) (ks : List ByteArray) (w : World) (h : w.ownsRow base 9 1 (.slice (some ⟨g, 0, none⟩) ks.length cap) ks.length (ks.map Value.string)) (hl : ks.length ≤ 1024) :
    Calls Ybaf.prog 8 #[.slice (some ⟨g, 0, none⟩) ks.length cap] w fun e w' => e = .returned (.tuple #[]) ∧
      w'.ownsRow base 9 1 (.slice (some ⟨g, 0, none⟩) ks.length cap) ks.length (((ks.map toL).mergeSort leB).map encStr) ∧ w.grownBy w' (some g) := by
  rcases h.2 with ⟨h0, _⟩ | ⟨g', cap', cur, hv, hbase, hb, h1, h2, h3, h4⟩
  · simp at h0
  · simp at hv
    obtain ⟨rfl, rfl⟩ := hv
    have he : ks.map Value.string = (ks.map toL).map encStr := by
      rw [List.map_map]
      refine List.map_congr_left fun k _ => ?_
      simp [encStr, toL]
    have hH : Sort.Holds encStr w g 0 (ks.map toL).toArray := holds_of_block hb (by rw [List.length_map, ← he]; simpa using h4)
    have hc := Ybaf.sort_Strings g 0 cap (ks.map toL) w hH (lt_of_some hb) (by rw [List.length_map]; omega)
    rw [List.length_map] at hc
    refine hc.mono ?_
    rintro e w' ⟨rfl, n, os, rfl⟩
    refine ⟨rfl, ?_, grownBy_sorted _⟩
    have := ownsRow_sorted (n := n) (os := os) (ss := ks.map toL) (ts := (ks.map toL).mergeSort leB) (by simp) hbase hb (by simpa using h1) h2 h3
    simpa using this

theorem enc_toL (l : List ByteArray) : (l.map toL).map encStr = l.map Value.string := by
  rw [List.map_map]
  refine List.map_congr_left fun k _ => ?_
  simp [encStr, toL]

theorem hit_take {ps : List (Nat × Nat)} {v : ByteArray} {i j a c : Nat} (hj : j < ps.length) (ha : a = (ps.getD j (0, 0)).1) (hc : c = (ps.getD j (0, 0)).2) :
    hit (ps.take (j + 1)) v i = (hit (ps.take j) v i || (decide (keyS a = keyS i) && decide (valS c = v))) := by
  rw [take_succ' hj ha hc]
  simp [hit]

theorem hit_of {ps : List (Nat × Nat)} {v : ByteArray} {i j a c : Nat} (hj : j < ps.length) (ha : a = (ps.getD j (0, 0)).1) (hc : c = (ps.getD j (0, 0)).2) (h1 : keyS a = keyS i) (h2 : valS c = v) : hit ps v i = true := by
  unfold hit
  rw [List.any_eq_true]
  refine ⟨ps[j], List.getElem_mem hj, ?_⟩
  rw [List.getD_eq_getElem?_getD, List.getElem?_eq_getElem hj] at ha hc
  simp only [Option.getD_some] at ha hc
  simp [← ha, ← hc, h1, h2]

/-- The names, sorted, and what is wanted so far: two rows of the call's own. -/
structure Two (x g14 c14 g9 cap9 n : Nat) (w1 wr : World) (xs ys : List ByteArray) : Prop where
  row : wr.ownsRow (x + 1) 9 1 (.slice (some ⟨g14, 0, none⟩) xs.length c14) xs.length (xs.map Value.string)
  names : wr.ownsRow (x + 1) 9 1 (.slice (some ⟨g9, 0, none⟩) n cap9) n (ys.map Value.string)
  ne : g14 ≠ g9
  below : Below x w1 wr
  size : x + 1 ≤ wr.heap.size

theorem Two.alloc {x g14 c14 g9 cap9 n : Nat} {w1 wr : World} {xs ys : List ByteArray} (h : Two x g14 c14 g9 cap9 n w1 wr xs ys) (o : Obj) : Two x g14 c14 g9 cap9 n w1 (wr.alloc o) xs ys :=
  ⟨h.row.alloc o, h.names.alloc o, h.ne, h.below.alloc (by have := h.size; omega) o, by have := h.size; simp; omega⟩

theorem Two.push {x g14 c14 g9 cap9 n g4 c4 : Nat} {w1 wr w4 : World} {xs ys : List ByteArray} {k : ByteArray} (h : Two x g14 c14 g9 cap9 n w1 wr xs ys)
    (hown : w4.ownsRow (x + 1) 9 1 (.slice (some ⟨g4, 0, none⟩) (xs.length + 1) c4) (xs.length + 1) (xs.map Value.string ++ [.string k])) (hg : wr.grownBy w4 (some g14))
    (hloc : g4 = g14 ∨ g4 = wr.heap.size) : Two x g4 c4 g9 cap9 n w1 w4 (xs ++ [k]) ys := by
  have hz := h.size
  have h9 := h.names.lt g9 rfl
  have h14 := h.row.lt g14 rfl
  have hne := h.ne
  refine ⟨by simpa using hown, h.names.kept hg (.inr (by simp [Value.ownBlock]; omega)), ?_, h.below.grown hg (by omega) (fun j e => by cases e; omega), Nat.le_trans hz hg.size⟩
  rcases hloc with e | e
  · rw [e]; exact hne
  · omega

theorem eqB (a b : ByteArray) : (a.toList == b.toList) = decide (a = b) := by
  rw [Bool.eq_iff_iff, beq_iff_eq, decide_eq_true_eq, ByteArray.toList_eq, ByteArray.toList_eq]
  exact ⟨toL_inj, fun h => by rw [h]⟩

theorem cell_one_new2 (w : World) (o : Obj) (x : Value) (t : TypeId) : ∀ j u, [x][j]? = some u → ((w.alloc o).alloc (.cells #[x] t)).cell? ((⟨w.heap.size + 1, 0, none⟩ : Addr).add j) = some u := by
  have h := cell_one_new (w.alloc o) x t
  rwa [World.size_alloc] at h

theorem drewN_below (w : World) : ∀ q, Below w.heap.size w (w.drewN q) := by
  intro q
  exact ⟨rfl, rfl, rfl, Nat.le_refl _, fun _ _ => rfl⟩

theorem equal_rows (base g9 cap9 n g14 c14 : Nat) (ys : List ByteArray) (w : World) (h9 : w.ownsRow base 9 1 (.slice (some ⟨g9, 0, none⟩) n cap9) n (ys.map Value.string))
    (h14 : w.ownsRow base 9 1 (.slice (some ⟨g14, 0, none⟩) ys.length c14) ys.length (ys.map Value.string)) (hl : ys.length ≤ 1024) :
    Calls Ybaf.prog 10 #[.slice (some ⟨g9, 0, none⟩) n cap9, .slice (some ⟨g14, 0, none⟩) ys.length c14] w fun e w' => e = .returned (.bool true) ∧ Below w.heap.size w w' := by
  have hn : n = ys.length := by have := h9.1; simp at this; omega
  subst hn
  have cell : ∀ {g c : Nat}, w.ownsRow base 9 1 (.slice (some ⟨g, 0, none⟩) ys.length c) ys.length (ys.map Value.string) → ∀ j, j < ys.length → w.cell? ⟨g, 0 + j, none⟩ = some (.string (ys.getD j ByteArray.empty)) := by
    intro g c h j hj
    rw [Nat.zero_add]
    refine row_at h ?_
    rw [List.getElem?_map, List.getElem?_eq_getElem hj, List.getD_eq_getElem?_getD, List.getElem?_eq_getElem hj]
    rfl
  refine (Ybaf.slices_Equal_string g9 0 ys.length cap9 g14 0 ys.length c14 ys ys w (Nat.le_refl _) (Nat.le_refl _) (by omega) (by omega) (cell h9) (cell h14)).mono ?_
  rintro e w' ⟨rfl, q, rfl⟩
  exact ⟨by simp, drewN_below w q⟩

theorem assert_obj (a : Option Addr) (w : World) : (Instr.typeAssert (.iface 34 (.pointer a)) 33 34 true).run Ybaf.prog w = .ok (.tuple #[.pointer a, .bool true]) w := by kernel_rfl

set_option maxRecDepth 100000 in
set_option maxHeartbeats 1600000 in
theorem filed_some (b off : Nat) (ps : List (Nat × Nat)) (cap : Nat) (q : Nat) (hq : q < 256) (w : World) (hp : PairsAt w (some ⟨b, off, none⟩) ps) (hn : ps.length ≤ 1024) (hb : b < w.heap.size)
    (hc0 : ∀ i, i < ps.length → w.cell? ⟨b, off + i * 2, none⟩ = some (.int .u8 (ps.getD i (0, 0)).1))
    (hc1 : ∀ i, i < ps.length → w.cell? ⟨b, off + i * 2 + 1, none⟩ = some (.int .u8 (ps.getD i (0, 0)).2)) :
    Calls Ybaf.prog 3 #[.slice (some ⟨b, off, none⟩) ps.length cap, .int .u8 q] w fun e w' => e = .returned (.bool true) ∧ Below w.heap.size w w' := by
  have hlt := hp.lt
  have hta := assert_obj
  obtain ⟨i0, hi, hz0, hz1, hz2⟩ := info_parts Ybaf.info9
  go_enter Ybaf.func3, Ybaf.ntmps3
  go_wp2_with (first
      | (go_at_call 5; refine (build_all _ ps cap _ hp hn).mono ?_; rintro e w1 ⟨x, xi, xm, ob, sb, vv, rfl, hS, hb1⟩)
      | (go_at_call 6; refine (val_any q hq _).mono ?_; rintro e w' ⟨rfl, hw'⟩; have hw'' := hw'.symm; clear hw'; subst hw'')
      | (go_at_call 7; refine (byIndex_all w.heap.size ps x xi xm ob sb vv _ _ hn hS).mono ?_; rintro e w2 ⟨g, gcap, ks, hks, rfl, hown2, hb2⟩; have hkl : ks.length ≤ 1024 := (by rw [hks.length_eq]; exact Nat.le_trans (sKeys_le _ _) hn); have hx2 : x + 1 ≤ w2.heap.size := (by have := lt_of_some hS.st; have := hb2.size; omega))
      | (at_make; refine wpList_make_own _ rfl _ _ 31 rfl (x + 1) 9 i0 (.string ⟨#[]⟩) 1 Ybaf.underlying31 hi hz0 hz1 _ _ _ ks.length rfl rfl rfl (by rw [hz2]; omega) (by unfold maxLen; omega) hx2 ?_; intro w3 hown3 hg3))
  have hgot3 := hown2.kept hg3 (.inr (by simp [Value.ownBlock]))
  have hB3 : Below x w1 w3 := hb2.grown hg3 (by omega) (fun j e => by cases e)
  have hobs : ∀ k ∈ ks, ob k < x ∧ w1.heap[ob k]? = some (.cells #[.string k] 37 (0, 0)) := by
    intro k hk
    have hk' : k ∈ oKeys ps := oKeys_of_sKeys (hks.mem_iff.1 hk)
    exact ⟨hS.obx k hk', (hS.inv.objs k hk').2⟩
  have hx3 : x + 1 ≤ w3.heap.size := Nat.le_trans hx2 hg3.size
  go_loopw [9, 39] (fun v9 i wr => ∃ (k g9 cap9 : Nat), k ≤ ks.length ∧ i = .int .i64 k ∧ v9 = .slice (some ⟨g9, 0, none⟩) k cap9 ∧ wr.ownsRow (x + 1) 9 1 (.slice (some ⟨g9, 0, none⟩) k cap9) k ((ks.take k).map Value.string) ∧
      wr.ownsRow (x + 1) 33 1 (.slice (some ⟨g, 0, none⟩) ks.length gcap) ks.length (ks.map (oVal ob)) ∧ Below x w1 wr ∧ x + 1 ≤ wr.heap.size)
    (fun _ i _ => ks.length - (intOf i).toNat)
  case atStart => exact ⟨0, _, _, Nat.zero_le _, rfl, rfl, by simpa using hown3, hgot3, hB3, hx3⟩
  case round =>
    obtain ⟨k, g9, cap9, hk, rfl, rfl, hown9, hgot, hB, hxr⟩ := hrel
    by_cases hkl2 : k < ks.length
    · obtain ⟨kk, hkk⟩ : ∃ kk, ks[k]? = some kk := ⟨_, List.getElem?_eq_getElem hkl2⟩
      have hmem : kk ∈ ks := List.mem_of_getElem? hkk
      have hc : wr.cell? ⟨g, k, none⟩ = some (.iface 34 (.pointer (some ⟨ob kk, 0, none⟩))) := row_at hgot (by rw [List.getElem?_map, hkk]; rfl)
      have ho : wr.cell? ⟨ob kk, 0, none⟩ = some (.string kk) := by
        have h1 := (hobs kk hmem)
        have h2 : wr.heap[ob kk]? = _ := (hB.block _ h1.1).trans h1.2
        simp [World.cell?, h2]
      have htk : (ks.take (k + 1)).map Value.string = (ks.take k).map Value.string ++ [.string kk] := by
        rw [List.take_add_one, hkk]; simp
      have Htk : Hid ((ks.take (k + 1)).map Value.string = (ks.take k).map Value.string ++ [.string kk]) := htk
      have Hkk : Hid (ks[k]? = some kk) := hkk
      clear htk hkk
      go_wp2_with (at_builtin; refine wpList_append_own_at _ rfl _ _ 31 rfl (x + 1) 9 i0 (.string ⟨#[]⟩) 1 16 Ybaf.underlying31 hi hz0 hz1 hz2 rfl (by decide) _ _ _ rfl (hown9.alloc _) ⟨wr.heap.size, 0, none⟩ 1 1 [.string kk] rfl rfl (cell_one_new _ _ _) (by simp [Value.oneCell']) (by unfold maxLen; omega) (by omega) (by simp; omega) ?_; intro v4 w4 hown4 hg4 hnil4 hloc4; obtain ⟨g4, cap4, hv4⟩ := ownsRow_one hown4; rw [hv4] at hown4 hloc4 ⊢; clear hnil4 hv4)
      have hgot4 := (hgot.alloc _).kept hg4 (row_ne_row (by decide) hgot hown9)
      have hB4 := (hB.alloc (by omega) _).grown hg4 (by simp; omega) (fun j e => by have := (hown9.lt j e).1; omega)
      have hx4 : x + 1 ≤ w4.heap.size := by have := hg4.size; simp at this; omega
      go_roundw
      case rel => exact ⟨k + 1, g4, cap4, by omega, by go_num, rfl, by rw [Htk.out]; exact hown4, hgot4, hB4, hx4⟩
      case measure => simp [intOf]; omega
    · obtain rfl : k = ks.length := by omega
      rw [List.take_length] at hown9
      go_wp2_with (go_at_call 8; refine (sort_row (x + 1) g9 cap9 ks _ hown9 hkl).mono ?_; rintro e w5 ⟨rfl, hown5, hg5⟩; rw [sorted_is_want hks] at hown5)
      rw [enc_toL] at hown5
      have hB5 := hB.grown hg5 (by omega) (fun j e => by cases e; have := (hown9.lt g9 rfl).1; omega)
      have hx5 : x + 1 ≤ w5.heap.size := Nat.le_trans hxr hg5.size
      have hg9 : g9 < w5.heap.size := (hown5.lt g9 rfl).2
      clear hgot hown9 hB hg5 hxr hobs hgot3 hB3 hx3 hown3 hg3 hown2
      go_loopw [14, 15] (fun v14 v15 wr => ∃ (i g14 c14 : Nat), i ≤ 8 ∧ v15 = .int .u8 i ∧ v14 = .slice (some ⟨g14, 0, none⟩) (want ps (valS q) i).length c14 ∧
          Two x g14 c14 g9 cap9 ks.length w1 wr (want ps (valS q) i) (want ps (valS q) 8))
        (fun _ v15 _ => 8 - (intOf v15).toNat)
      case atStart =>
        refine ⟨0, w5.heap.size, 0, by omega, rfl, rfl, ⟨?_, hown5.alloc _, by omega, hB5.alloc (by omega) _, by simp; omega⟩⟩
        exact World.ownsRow_made (base := x + 1) (e := 9) (size := 1) w5 #[] 0 hx5 (by unfold maxLen; omega) (by simp)
      case round =>
        obtain ⟨i, g14, c14, hi8, rfl, rfl, hT⟩ := hrel
        by_cases hil : i < 8
        · have hil' : i < 256 := by omega
          have hwl := want_len ps (valS q) i
          have Hws : Hid (want ps (valS q) (i + 1) = if hit ps (valS q) i = true then want ps (valS q) i ++ [keyS i] else want ps (valS q) i) := want_succ ps (valS q) i
          obtain ⟨xs, hxs⟩ : ∃ xs, xs = want ps (valS q) i := ⟨_, rfl⟩
          rw [← hxs] at hT hwl Hws ⊢
          clear hxs
          go_wp2_with (go_at_call 9; refine (key_any i hil' _).mono ?_; rintro e w' ⟨rfl, hw'⟩; have hw'' := hw'.symm; clear hw'; subst hw'')
          obtain ⟨wo, hwo⟩ : ∃ wo : World, wo = wr := ⟨_, rfl⟩
          rw [← hwo] at hT ⊢
          clear hwo
          go_loopw [14, 73] (fun v14 v73 wi => ∃ (j : Nat), j ≤ ps.length ∧ v73 = .int .i64 j ∧ v14 = .slice (some ⟨g14, 0, none⟩) xs.length c14 ∧ hit (ps.take j) (valS q) i = false ∧
              Two x g14 c14 g9 cap9 ks.length w1 wi xs (want ps (valS q) 8))
            (fun _ v73 _ => ps.length - (intOf v73).toNat)
          case atStart => exact ⟨0, Nat.zero_le _, rfl, rfl, by simp [hit], hT⟩
          case round =>
            obtain ⟨j, hj, rfl, rfl, hno, hT⟩ := hrel
            by_cases hjl : j < ps.length
            · obtain ⟨a, ha⟩ : ∃ a, a = (ps.getD j (0, 0)).1 := ⟨_, rfl⟩
              obtain ⟨c, hc⟩ : ∃ c, c = (ps.getD j (0, 0)).2 := ⟨_, rfl⟩
              have hbx : b < x := by have := hS.bx; omega
              have hx0 : wr.cell? ⟨b, off + j * 2, none⟩ = some (.int .u8 a) := by rw [ha]; exact (hT.below.cell (p := ⟨b, _, none⟩) hbx).trans ((hb1.cell (p := ⟨b, _, none⟩) hb).trans (hc0 j hjl))
              have hx1 : wr.cell? ⟨b, off + j * 2 + 1, none⟩ = some (.int .u8 c) := by rw [hc]; exact (hT.below.cell (p := ⟨b, _, none⟩) hbx).trans ((hb1.cell (p := ⟨b, _, none⟩) hb).trans (hc1 j hjl))
              have hal : a < 256 := ha ▸ (hlt j).1
              have hcl : c < 256 := hc ▸ (hlt j).2
              have Ha : Hid (a = (ps.getD j (0, 0)).1) := ha
              have Hc : Hid (c = (ps.getD j (0, 0)).2) := hc
              have hsz := hT.size
              clear ha hc
              have t1 := eqB (keyS a) (keyS i)
              have t2 := eqB (valS c) (valS q)
              by_cases e1 : keyS a = keyS i
              · by_cases e2 : valS c = valS q
                · rw [decide_eq_true e1] at t1
                  rw [decide_eq_true e2] at t2
                  have Hh : Hid (hit ps (valS q) i = true) := hit_of hjl Ha.out Hc.out e1 e2
                  clear e1 e2
                  go_wp2_with (first
                  | (go_at_call 9; refine (key_any a hal _).mono ?_; rintro e w' ⟨rfl, hw'⟩; have hw'' := hw'.symm; clear hw'; subst hw'')
                  | (go_at_call 6; refine (val_any c hcl _).mono ?_; rintro e w' ⟨rfl, hw'⟩; have hw'' := hw'.symm; clear hw'; subst hw'')
                    | (at_builtin; refine wpList_append_own_at _ rfl _ _ 31 rfl (x + 1) 9 i0 (.string ⟨#[]⟩) 1 16 Ybaf.underlying31 hi hz0 hz1 hz2 rfl (by decide) (.slice (some ⟨g14, 0, none⟩) xs.length c14) _ _ rfl ((hT.alloc _).alloc _).row ⟨wr.heap.size + 1, 0, none⟩ 1 1 [.string (keyS i)] rfl rfl (cell_one_new2 _ _ _ _) (by simp [Value.oneCell']) (by unfold maxLen; omega) (by omega) (by simp; omega) ?_; intro v4 w4 hown4 hg4 hnil4 hloc4; obtain ⟨g4, cap4, hv4⟩ := ownsRow_one hown4; rw [hv4] at hown4 hloc4 ⊢; clear hnil4 hv4; have hT4 := ((hT.alloc _).alloc _).push hown4 hg4 (by simpa [Value.ownBlock] using hloc4)))
                  go_roundw
                  case rel =>
                    refine ⟨i + 1, g4, cap4, by omega, by go_num, ?_, ?_⟩
                    · rw [Hws.out, Hh.out]; simp
                    · rw [Hws.out, Hh.out]; exact hT4
                  case measure => simp [intOf]; omega
                · rw [decide_eq_true e1] at t1
                  rw [decide_eq_false e2] at t2
                  have Hh : Hid (hit (ps.take (j + 1)) (valS q) i = false) := by
                    show hit (ps.take (j + 1)) (valS q) i = false
                    rw [hit_take hjl Ha.out Hc.out, hno, decide_eq_false e2]; simp
                  clear e1 e2
                  go_wp2_with (first
                  | (go_at_call 9; refine (key_any a hal _).mono ?_; rintro e w' ⟨rfl, hw'⟩; have hw'' := hw'.symm; clear hw'; subst hw'')
                  | (go_at_call 6; refine (val_any c hcl _).mono ?_; rintro e w' ⟨rfl, hw'⟩; have hw'' := hw'.symm; clear hw'; subst hw''))
                  go_roundw
                  case rel => exact ⟨j + 1, by omega, by go_num, rfl, Hh.out, hT.alloc _⟩
                  case measure => simp [intOf]; omega
              · rw [decide_eq_false e1] at t1
                have Hh : Hid (hit (ps.take (j + 1)) (valS q) i = false) := by
                  show hit (ps.take (j + 1)) (valS q) i = false
                  rw [hit_take hjl Ha.out Hc.out, hno, decide_eq_false e1]; simp
                clear e1 t2
                go_wp2_with (first
                  | (go_at_call 9; refine (key_any a hal _).mono ?_; rintro e w' ⟨rfl, hw'⟩; have hw'' := hw'.symm; clear hw'; subst hw'')
                  | (go_at_call 6; refine (val_any c hcl _).mono ?_; rintro e w' ⟨rfl, hw'⟩; have hw'' := hw'.symm; clear hw'; subst hw''))
                go_roundw
                case rel => exact ⟨j + 1, by omega, by go_num, rfl, Hh.out, hT.alloc _⟩
                case measure => simp [intOf]; omega
            · have Hh : Hid (hit ps (valS q) i = false) := by
                show hit ps (valS q) i = false
                rw [List.take_of_length_le (by omega)] at hno
                exact hno
              go_wp2
              go_roundw
              case rel =>
                refine ⟨i + 1, g14, c14, by omega, by go_num, ?_, ?_⟩
                · rw [Hws.out, Hh.out]; simp
                · rw [Hws.out, Hh.out]; exact hT
              case measure => simp [intOf]; omega
        · obtain rfl : i = 8 := by omega
          have hwl := want_len ps (valS q) 8
          go_wp2_with (go_at_call 10; refine (equal_rows (x + 1) g9 cap9 ks.length g14 c14 _ _ hT.names hT.row (by omega)).mono ?_; rintro e w6 ⟨rfl, hb6⟩)
          go_ret
          have hbx := hS.bx
          have hsz := hT.size
          exact ⟨rfl, hb1.trans ((hT.below.mono (by omega)).trans (hb6.mono (by omega)))⟩

set_option maxRecDepth 100000 in
set_option maxHeartbeats 800000 in
/-- No pair. -/
theorem filed_none (ao : Option Addr) (cap : Nat) (q : Nat) (hq : q < 256) (w : World) :
    Calls Ybaf.prog 3 #[.slice ao 0 cap, .int .u8 q] w fun e w' => e = .returned (.bool true) ∧ Below w.heap.size w w' := by
  obtain ⟨i0, hi, hz0, hz1, hz2⟩ := info_parts Ybaf.info9
  have hn0 : ([] : List (Nat × Nat)).length ≤ 1024 := by simp
  go_enter Ybaf.func3, Ybaf.ntmps3
  go_wp2_with (first
      | (go_at_call 5; refine (build_none ao cap _).mono ?_; rintro e w1 ⟨x, xi, xm, ob, sb, vv, rfl, hS, hb1⟩)
      | (go_at_call 6; refine (val_any q hq _).mono ?_; rintro e w' ⟨rfl, hw'⟩; have hw'' := hw'.symm; clear hw'; subst hw'')
      | (go_at_call 7; refine (byIndex_none w.heap.size [] x xi xm ob sb vv _ _ hS (by simp [vVals])).mono ?_; rintro e w2 ⟨g, gcap, rfl, hown2, hb2⟩; have hx2 : x + 1 ≤ w2.heap.size := (by have := lt_of_some hS.st; have := hb2.size; omega))
      | (at_make; refine wpList_make_own _ rfl _ _ 31 rfl (x + 1) 9 i0 (.string ⟨#[]⟩) 1 Ybaf.underlying31 hi hz0 hz1 _ _ _ 0 rfl rfl rfl (by omega) (by unfold maxLen; omega) hx2 ?_; intro w3 hown3 hg3))
  have hB3 : Below x w1 w3 := hb2.grown hg3 (by omega) (fun j e => by cases e)
  have hx3 : x + 1 ≤ w3.heap.size := Nat.le_trans hx2 hg3.size
  go_loopw [9, 39] (fun v9 i wr => ∃ (g9 : Nat), i = .int .i64 0 ∧ v9 = .slice (some ⟨g9, 0, none⟩) 0 0 ∧ wr.ownsRow (x + 1) 9 1 (.slice (some ⟨g9, 0, none⟩) 0 0) 0 [] ∧ Below x w1 wr ∧ x + 1 ≤ wr.heap.size) (fun _ _ _ => 0)
  case atStart => exact ⟨_, rfl, rfl, hown3, hB3, hx3⟩
  case round =>
    obtain ⟨g9, rfl, rfl, hown9, hB, hxr⟩ := hrel
    go_wp2_with (go_at_call 8; refine (sort_row (x + 1) g9 0 [] _ hown9 (by simp)).mono ?_; rintro e w5 ⟨rfl, hown5, hg5⟩)
    have hB5 := hB.grown hg5 (by omega) (fun j e => by cases e; have := (hown9.lt g9 rfl).1; omega)
    have hx5 : x + 1 ≤ w5.heap.size := Nat.le_trans hxr hg5.size
    go_loopw [14, 15] (fun v14 v15 wr => ∃ (i g14 : Nat), i ≤ 8 ∧ v15 = .int .u8 i ∧ v14 = .slice (some ⟨g14, 0, none⟩) 0 0 ∧ Below x w1 wr ∧ x + 1 ≤ wr.heap.size) (fun _ v15 _ => 8 - (intOf v15).toNat)
    case atStart => exact ⟨0, _, by omega, rfl, rfl, hB5.alloc (by omega) _, by simp; omega⟩
    case round =>
      obtain ⟨i, g14, hi8, rfl, rfl, hB, hxr⟩ := hrel
      by_cases hil : i < 8
      · have hil' : i < 256 := by omega
        go_wp2_with (go_at_call 9; refine (key_any i hil' _).mono ?_; rintro e w' ⟨rfl, hw'⟩; have hw'' := hw'.symm; clear hw'; subst hw'')
        go_loopw [14, 73] (fun v14 v73 wi => v73 = .int .i64 0 ∧ v14 = .slice (some ⟨g14, 0, none⟩) 0 0 ∧ Below x w1 wi ∧ x + 1 ≤ wi.heap.size) (fun _ _ _ => 0)
        case atStart => exact ⟨rfl, rfl, hB, hxr⟩
        case round =>
          obtain ⟨rfl, rfl, hB, hxr⟩ := hrel
          go_wp2
          go_roundw
          case rel => exact ⟨i + 1, g14, by omega, by go_num, rfl, hB, hxr⟩
          case measure => simp [intOf]; omega
      · obtain rfl : i = 8 := by omega
        go_wp2_with (go_at_call 10; refine (Ybaf.slices_Equal_string_empty _ _ _ _ _ _ (by omega)).mono ?_; rintro e w6 ⟨rfl, hw6⟩)
        go_ret
        have hbx := hS.bx
        subst hw6
        exact ⟨by simp, hb1.trans (hB.mono (by omega))⟩

theorem filed_all (ao : Option Addr) (ps : List (Nat × Nat)) (cap : Nat) (q : Nat) (hq : q < 256) (w : World) (hp : PairsAt w ao ps) (hm : ps.length ≤ maxLen) :
    Calls Ybaf.prog 3 #[.slice ao ps.length cap, .int .u8 q] w fun e w' => e = .returned (.bool true) ∧ Below w.heap.size w w' := by
  by_cases hn : ps.length ≤ 1024
  · by_cases h : ps = []
    · subst h
      exact filed_none ao cap q hq w
    · obtain ⟨b, off, rfl, hb, h0, h1⟩ := hp.cells h
      exact filed_some b off ps cap q hq w hp hn hb h0 h1
  · exact filed_long ao ps.length cap q w (by omega) hm
end Go.Proofs.YbulkaqzgFmt

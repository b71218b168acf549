/-
  THE WALK OF 'zzs2125cbuild': the store that it lays.
-/
import Derived.Test.YbulkaqzgFmtInv
import Derived.Maps.AppendAt
import Derived.Maps.OwnOps
import Derived.WalkSpells
import Derived.WalkLawsBesides
namespace Go.Proofs.YbulkaqzgFmt
open Go.RowKit Go.StrMap

theorem Ybaf.info9 : (Ybaf.prog.info? 9).map (fun i => (i.zero, i.size, i.bytes)) = some (some (.string ⟨#[]⟩), 1, 16) := by kernel_rfl

theorem take_succ' {ps : List (Nat × Nat)} {k a c : Nat} (h : k < ps.length) (ha : a = (ps.getD k (0, 0)).1) (hc : c = (ps.getD k (0, 0)).2) : ps.take (k + 1) = ps.take k ++ [(a, c)] := by
  rw [List.take_succ_eq_append_getElem h, ha, hc, List.getD_eq_getElem?_getD, List.getElem?_eq_getElem h]
  rfl

theorem heap_new2 (w : World) (o o' : Obj) : ((w.alloc o).alloc o').heap[w.heap.size + 1]? = some o' := by
  have := heap_alloc_new (w.alloc o) o'
  rwa [World.size_alloc] at this

theorem heap_old2 (w : World) (o o' : Obj) : ((w.alloc o).alloc o').heap[w.heap.size]? = some o := by
  exact (Below.heap_alloc (w.alloc o) o' _ (by simp)).trans (heap_alloc_new w o)

theorem S_old {pre : List (Nat × Nat)} {v k : ByteArray} : ∀ u, upd (sKeys pre) v (addKey (sKeys pre v) k) u = if u = v then addKey (sKeys pre u) k else sKeys pre u := by
  intro u
  unfold upd
  split
  · rename_i h; rw [h]
  · rfl

theorem S_new {pre : List (Nat × Nat)} {v k : ByteArray} (h : ¬ v ∈ vVals pre) : ∀ u, upd (upd (sKeys pre) v []) v (addKey (upd (sKeys pre) v [] v) k) u = if u = v then addKey (sKeys pre u) k else sKeys pre u := by
  intro u
  rw [upd_same]
  by_cases e : u = v
  · subst e
    rw [upd_same, if_pos rfl, sKeys_none h]
  · rw [upd_other _ _ e, upd_other _ _ e, if_neg e]

theorem ownBlock_of_row {w : World} {B n : Nat} {v : Value} {xs : List Value} (h : w.ownsRow B 9 1 v (n + 1) xs) : v.ownBlock ≠ none := by
  rcases h.2 with ⟨_, h2⟩ | ⟨g, cap, cur, rfl, _⟩
  · omega
  · simp [Value.ownBlock]

theorem row_cells {w : World} {B n : Nat} {v : Value} {xs : List Value} (h : w.ownsRow B 9 1 v n xs) : ∀ j, v.ownBlock = some j → ∃ cur, w.heap[j]? = some (.cells cur 9 (0, 0)) := by
  intro j hj
  rcases h.2 with ⟨rfl, _⟩ | ⟨g, cap, cur, rfl, _, h5, _⟩
  · simp [Value.ownBlock] at hj
  · simp [Value.ownBlock] at hj
    subst hj
    exact ⟨cur, h5⟩

/-- THE STORE THAT IS HANDED BACK. -/
structure Store (B : Nat) (w : World) (ps : List (Nat × Nat)) (x xi xm : Nat) (ob sb : ByteArray → Nat) (vv : ByteArray → Value) : Prop where
  inv : Inv B ps.length w (oKeys ps) ob (vVals ps) sb (sKeys ps) (oKeys ps) vv
  st : w.heap[x]? = some (.cells #[.nilFunc, .int .i32 0, .int .u32 0, .int .u32 0, .int .u32 0, .int .i32 0, .int .i32 0, .map (some B), .map (some xm)] 70 (0, 0))
  ix : w.heap[xm]? = some (mapObj [(⟨#[105, 100, 120]⟩, .pointer (some ⟨xi, 0, none⟩))])
  xs : w.heap[xi]? = some (.cells #[.nilFunc, .map (some (B + 1)), .map (some (B + 2))] 54 (0, 0))
  bx : B + 3 ≤ x
  bxm : B + 3 ≤ xm
  bxi : B + 3 ≤ xi
  obx : ∀ k ∈ oKeys ps, ob k < x

theorem store_end {w wr w1 : World} {ps : List (Nat × Nat)} {k : Nat} {ob sb : ByteArray → Nat} {vv : ByteArray → Value} (hk : k = ps.length)
    (hI : Inv w.heap.size k wr (oKeys (ps.take k)) ob (vVals (ps.take k)) sb (sKeys (ps.take k)) (oKeys (ps.take k)) vv) (hB : Below w.heap.size w wr)
    (hm1 : w1.heap[wr.heap.size]? = some (mapObj (putL ⟨#[105, 100, 120]⟩ (.pointer (some ⟨wr.heap.size + 1, 0, none⟩)) [])))
    (hg1 : ((wr.alloc (.map #[] 0)).alloc (.cells #[.nilFunc, .map (some (w.heap.size + 1)), .map (some (w.heap.size + 1 + 1))] 54)).grownBy w1 (some wr.heap.size)) :
    (∃ xi xm ob sb vv, Store w.heap.size (w1.alloc (.cells #[.nilFunc, .int .i32 0, .int .u32 0, .int .u32 0, .int .u32 0, .int .i32 0, .int .i32 0, .map (some w.heap.size), .map (some wr.heap.size)] 70)) ps w1.heap.size xi xm ob sb vv) ∧
      Below w.heap.size w (w1.alloc (.cells #[.nilFunc, .int .i32 0, .int .u32 0, .int .u32 0, .int .u32 0, .int .i32 0, .int .i32 0, .map (some w.heap.size), .map (some wr.heap.size)] 70)) := by
  subst hk
  rw [List.take_length] at hI
  have hroom := hI.room
  have hs1 : wr.heap.size + 1 + 1 ≤ w1.heap.size := by simpa using hg1.size
  have hb0 : Below w.heap.size w ((wr.alloc (.map #[] 0)).alloc (.cells #[.nilFunc, .map (some (w.heap.size + 1)), .map (some (w.heap.size + 1 + 1))] 54)) := (hB.alloc (by omega) _).alloc (by simp; omega) _
  have hb1 := hb0.grown hg1 (by simp; omega) (fun j e => by cases e; omega)
  have hgg : wr.grownBy w1 none := by
    have h0 := World.grownBy_alloc wr (.map #[] 0) none
    have h1 := World.grownBy_alloc (wr.alloc (.map #[] 0)) (.cells #[.nilFunc, .map (some (w.heap.size + 1)), .map (some (w.heap.size + 1 + 1))] 54) none
    refine ⟨hg1.os, hg1.tape, hg1.output, by omega, fun j hj _ => ?_⟩
    rw [hg1.block j (by simp; omega) (by simp; omega), h1.block j (by simp; omega) (by simp), h0.block j hj (by simp)]
  have hx : w1.heap[wr.heap.size + 1]? = some (.cells #[.nilFunc, .map (some (w.heap.size + 1)), .map (some (w.heap.size + 1 + 1))] 54) := by
    rw [hg1.block _ (by simp) (by simp)]
    exact heap_new2 _ _ _
  refine ⟨⟨wr.heap.size + 1, wr.heap.size, ob, sb, vv, (hI.kept hgg).alloc _, heap_alloc_new _ _, ?_, ?_, by omega, by omega, by omega, fun k hk => by have := lt_of_some (hI.objs k hk).2; omega⟩, hb1.alloc (by omega) _⟩
  · exact (Below.heap_alloc w1 _ _ (by omega)).trans hm1
  · exact (Below.heap_alloc w1 _ _ (by omega)).trans hx

set_option maxRecDepth 100000 in
/-- No pair. -/
theorem build_none (ao : Option Addr) (cap : Nat) (w : World) :
    Calls Ybaf.prog 5 #[.slice ao 0 cap] w fun e w' => ∃ x xi xm ob sb vv, e = .returned (.pointer (some ⟨x, 0, none⟩)) ∧ Store w.heap.size w' [] x xi xm ob sb vv ∧ Below w.heap.size w w' := by
  have hmm := @run_makeMap Ybaf.prog
  have hI := Inv.start w
  have hB : Below w.heap.size w (((w.alloc (.map #[] 0)).alloc (.map #[] 0)).alloc (.map #[] 0)) := (((Below.refl _ _).alloc (Nat.le_refl _) _).alloc (by simp) _).alloc (by simp; omega) _
  go_enter Ybaf.func5, Ybaf.ntmps5
  go_wp2
  go_loopw [18] (fun i wr => i = .int .i64 0 ∧ ∃ ob sb vv, Inv w.heap.size 0 wr (oKeys []) ob (vVals []) sb (sKeys []) (oKeys []) vv ∧ Below w.heap.size w wr) (fun _ _ => 0)
  case atStart => exact ⟨rfl, _, _, _, hI, hB⟩
  case round =>
    obtain ⟨rfl, ob, sb, vv, hI, hB⟩ := hrel
    go_wp2_with (refine wpList_insert _ rfl _ _ _ 55 rfl 9 50 Ybaf.underlying55 Ybaf.underlying9 wr.heap.size [] rfl (heap_old2 _ _ _) _ rfl (.pointer (some ⟨wr.heap.size + 1, 0, none⟩)) rfl ?_; rintro w1 hm1 hg1 -)
    go_ret
    obtain ⟨⟨xi, xm, ob', sb', vv', hS⟩, hb⟩ := store_end (ps := []) (k := 0) rfl hI hB hm1 hg1
    exact ⟨_, xi, xm, ob', sb', vv', rfl, hS, hb⟩

set_option maxRecDepth 100000 in
set_option maxHeartbeats 1600000 in
theorem build_any (b off : Nat) (ps : List (Nat × Nat)) (cap : Nat) (w : World) (hb : b < w.heap.size) (hn : ps.length ≤ 1024)
    (hc0 : ∀ i, i < ps.length → w.cell? ⟨b, off + i * 2, none⟩ = some (.int .u8 (ps.getD i (0, 0)).1))
    (hc1 : ∀ i, i < ps.length → w.cell? ⟨b, off + i * 2 + 1, none⟩ = some (.int .u8 (ps.getD i (0, 0)).2))
    (hlt : ∀ i, (ps.getD i (0, 0)).1 < 256 ∧ (ps.getD i (0, 0)).2 < 256) :
    Calls Ybaf.prog 5 #[.slice (some ⟨b, off, none⟩) ps.length cap] w fun e w' => ∃ x xi xm ob sb vv, e = .returned (.pointer (some ⟨x, 0, none⟩)) ∧ Store w.heap.size w' ps x xi xm ob sb vv ∧ Below w.heap.size w w' := by
  have hmm := @run_makeMap Ybaf.prog
  have heq := fun (w : World) (r : Option Nat) => run_eql_map_nil (P := Ybaf.prog) w 48 9 49 r Ybaf.underlying48
  obtain ⟨i0, hi, hz0, hz1, hz2⟩ := info_parts Ybaf.info9
  go_enter Ybaf.func5, Ybaf.ntmps5
  go_wp2
  go_loopw [18] (fun i wr => ∃ (k : Nat) (ob sb : ByteArray → Nat) (vv : ByteArray → Value), k ≤ ps.length ∧ i = .int .i64 k ∧
      Inv w.heap.size k wr (oKeys (ps.take k)) ob (vVals (ps.take k)) sb (sKeys (ps.take k)) (oKeys (ps.take k)) vv ∧ Below w.heap.size w wr)
    (fun i _ => ps.length - (intOf i).toNat)
  case atStart => exact ⟨0, _, _, _, Nat.zero_le _, rfl, Inv.start w, (((Below.refl _ _).alloc (Nat.le_refl _) _).alloc (by simp) _).alloc (by simp; omega) _⟩
  case round =>
    obtain ⟨k, ob, sb, vv, hk, rfl, hI, hB⟩ := hrel
    have hroom := hI.room
    by_cases hkl : k < ps.length
    · obtain ⟨a, ha⟩ : ∃ a, a = (ps.getD k (0, 0)).1 := ⟨_, rfl⟩
      obtain ⟨c, hc⟩ : ∃ c, c = (ps.getD k (0, 0)).2 := ⟨_, rfl⟩
      have hx0 : wr.cell? ⟨b, off + k * 2, none⟩ = some (.int .u8 a) := by rw [ha]; exact (hB.cell (p := ⟨b, _, none⟩) hb).trans (hc0 k hkl)
      have hx1 : wr.cell? ⟨b, off + k * 2 + 1, none⟩ = some (.int .u8 c) := by rw [hc]; exact (hB.cell (p := ⟨b, _, none⟩) hb).trans (hc1 k hkl)
      have hal : a < 256 := ha ▸ (hlt k).1
      have hcl : c < 256 := hc ▸ (hlt k).2
      have Hps : Hid (ps.take (k + 1) = ps.take k ++ [(a, c)]) := take_succ' hkl ha hc
      clear ha hc
      obtain ⟨pre, hpre⟩ : ∃ pre, pre = ps.take k := ⟨_, rfl⟩
      rw [← hpre] at hI Hps
      clear hpre
      obtain ⟨v0, hv0⟩ : ∃ v0, v0 = (getL (keyS a) ((oKeys pre).map fun k => (k, vv k))).getD (.slice none 0 0) := ⟨_, rfl⟩
      have Hv0 : Hid (v0 = (getL (keyS a) ((oKeys pre).map fun k => (k, vv k))).getD (.slice none 0 0)) := hv0
      clear hv0 hc0 hc1 hlt
      by_cases hkk : keyS a ∈ oKeys pre <;> by_cases hvv : valS c ∈ vVals pre
      · -- a known key, a known value
        go_wp2_with (first
          | (go_at_call 9; refine (key_any a hal _).mono ?_; rintro e w' ⟨rfl, rfl⟩)
          | (go_at_call 6; refine (val_any c hcl _).mono ?_; rintro e w' ⟨rfl, rfl⟩)
          | (at_lookup; refine wpList_lookup _ rfl _ _ 44 true rfl 9 33 Ybaf.underlying44 Ybaf.underlying9 .nilIface (Ybaf.zeroValue33 _) w.heap.size _ rfl (hI.alloc _).mo (keyS a) rfl (.tuple #[oVal ob (keyS a), .bool true]) (by rw [getL_map, memB_of hkk]; rfl) ?_)
          | (at_lookup; refine wpList_lookup _ rfl _ _ 45 false rfl 9 48 Ybaf.underlying45 Ybaf.underlying9 (.map none) (Ybaf.zeroValue48 _) (w.heap.size + 1) _ rfl (hI.alloc _).mks (valS c) rfl (.map (some (sb (valS c)))) (by rw [getL_map, memB_of hvv]; rfl) ?_)
          | (at_mapUpdate; refine wpList_update _ rfl _ _ _ 48 rfl 9 49 Ybaf.underlying48 Ybaf.underlying9 _ _ rfl ((hI.alloc _).sets _ hvv).2 (keyS a) rfl _ rfl ?_; rintro w3 hm3 hg3 -; have hB3 := (hB.alloc (by omega) _).grown hg3 (by first | omega | (simp; omega)) (fun j e => by cases e; have := (hI.sets _ hvv).1; omega); have hI3 := (hI.alloc _).putKey (k := keyS a) hvv (sKeys_nodup _ _) hm3 hg3; clear hm3 hg3; have hzz3 := hI3.room; obtain ⟨n0, xs0, hn0, hown0⟩ := hI3.rowAt (keyS a); rw [← Hv0.out] at hown0)
          | (at_lookup; refine wpList_lookup _ rfl _ _ 46 false rfl 9 31 Ybaf.underlying46 Ybaf.underlying9 (.slice none 0 0) (Ybaf.zeroValue31 _) (w.heap.size + 2) _ rfl hI3.mv (keyS a) rfl v0 Hv0.out.symm ?_)
          | (at_builtin; refine wpList_append_own_at _ rfl _ _ 31 rfl (w.heap.size + 3) 9 i0 (.string ⟨#[]⟩) 1 16 Ybaf.underlying31 hi hz0 hz1 hz2 rfl (by decide) _ _ _ rfl (hown0.alloc _) ⟨w3.heap.size, 0, none⟩ 1 1 [.string (valS c)] rfl rfl (cell_one_new _ _ _) (by simp [Value.oneCell']) (by unfold maxLen; omega) (by omega) (by simp; omega) ?_; intro v4 w4 hown4 hg4 hnil4 hloc4; clear hnil4; have hB4 := (hB3.alloc (by omega) _).grown hg4 (by simp; omega) (fun j e => by have := (hown0.lt j e).1; omega); have hm4 := kept_at hg4 (hI3.alloc (.cells #[.string (valS c)] 9)).mv (fun e => by have := (hown0.lt _ e.symm).1; omega))
          | (at_mapUpdate; refine wpList_update _ rfl _ _ _ 46 rfl 9 31 Ybaf.underlying46 Ybaf.underlying9 (w.heap.size + 2) _ rfl hm4 (keyS a) rfl _ rfl ?_; rintro w5 hm5 hg5 -; have hB5 := hB4.grown hg5 (by have := hg4.size; simp at this; omega) (fun j e => by cases e; omega); have hI5 := (hI3.alloc _).putRow Hv0.out hg4 hown4 (by omega) hloc4 (ownBlock_of_row hown4) (row_cells (hown0.alloc _)) hm5 hg5; clear hm5 hg5 hm4 hg4 hown4 hloc4))
        have hI6 := hI5
        rw [addKey_old hkk] at hI6
        have hek : oKeys pre = addKey (oKeys pre) (keyS a) := (addKey_old hkk).symm
        rw [hek] at hI6
        have hev : vVals pre = addKey (vVals pre) (valS c) := (addKey_old hvv).symm
        rw [hev] at hI6
        clear hI5
        go_roundw
        case rel => exact ⟨k + 1, _, _, _, by omega, by go_num, by rw [Hps.out]; exact Inv.next hI6 (S_old), hB5⟩
        case measure => simp [intOf]; omega

      · -- a known key, a new value
        go_wp2_with (first
          | (go_at_call 9; refine (key_any a hal _).mono ?_; rintro e w' ⟨rfl, rfl⟩)
          | (go_at_call 6; refine (val_any c hcl _).mono ?_; rintro e w' ⟨rfl, rfl⟩)
          | (at_lookup; refine wpList_lookup _ rfl _ _ 44 true rfl 9 33 Ybaf.underlying44 Ybaf.underlying9 .nilIface (Ybaf.zeroValue33 _) w.heap.size _ rfl (hI.alloc _).mo (keyS a) rfl (.tuple #[oVal ob (keyS a), .bool true]) (by rw [getL_map, memB_of hkk]; rfl) ?_)
          | (at_lookup; refine wpList_lookup _ rfl _ _ 45 false rfl 9 48 Ybaf.underlying45 Ybaf.underlying9 (.map none) (Ybaf.zeroValue48 _) (w.heap.size + 1) _ rfl (hI.alloc _).mks (valS c) rfl (.map none) (by rw [getL_map, memB_of_not hvv]; rfl) ?_)
          | (at_mapUpdate; refine wpList_update _ rfl _ _ _ 45 rfl 9 48 Ybaf.underlying45 Ybaf.underlying9 (w.heap.size + 1) _ rfl ((hI.alloc _).alloc (.map #[] 0)).mks (valS c) rfl _ rfl ?_; rintro w2 hm2 hg2 -; have hB2 := ((hB.alloc (by omega) _).alloc (by first | omega | (simp; omega)) _).grown hg2 (by first | omega | (simp; omega)) (fun j e => by cases e; omega); have hI2 := ((hI.alloc _).alloc (.map #[] 0)).putSet hvv (by first | omega | (simp; omega)) (by first | exact heap_alloc_new _ _ | exact heap_new2 _ _ _) (fun u hu => by have := lt_of_some (hI.sets u hu).2; first | omega | (simp at this ⊢; omega)) hm2 hg2; clear hm2 hg2; have hzz2 := hI2.room; have hset2 := (hI2.sets _ (mem_addKey.2 (.inr rfl))).2; simp only [upd_same] at hset2)
          | (at_mapUpdate; refine wpList_update _ rfl _ _ _ 48 rfl 9 49 Ybaf.underlying48 Ybaf.underlying9 _ _ rfl hset2 (keyS a) rfl _ rfl ?_; rintro w3 hm3 hg3 -; have hB3 := hB2.grown hg3 (by first | omega | (simp; omega)) (fun j e => by cases e; omega); have hI3 := hI2.putKey (k := keyS a) (mem_addKey.2 (.inr rfl)) (by simp [upd_same]) (by rw [upd_same, upd_same]; exact hm3) (by rw [upd_same]; exact hg3); clear hm3 hg3; have hzz3 := hI3.room; obtain ⟨n0, xs0, hn0, hown0⟩ := hI3.rowAt (keyS a); rw [← Hv0.out] at hown0)
          | (at_lookup; refine wpList_lookup _ rfl _ _ 46 false rfl 9 31 Ybaf.underlying46 Ybaf.underlying9 (.slice none 0 0) (Ybaf.zeroValue31 _) (w.heap.size + 2) _ rfl hI3.mv (keyS a) rfl v0 Hv0.out.symm ?_)
          | (at_builtin; refine wpList_append_own_at _ rfl _ _ 31 rfl (w.heap.size + 3) 9 i0 (.string ⟨#[]⟩) 1 16 Ybaf.underlying31 hi hz0 hz1 hz2 rfl (by decide) _ _ _ rfl (hown0.alloc _) ⟨w3.heap.size, 0, none⟩ 1 1 [.string (valS c)] rfl rfl (cell_one_new _ _ _) (by simp [Value.oneCell']) (by unfold maxLen; omega) (by omega) (by simp; omega) ?_; intro v4 w4 hown4 hg4 hnil4 hloc4; clear hnil4; have hB4 := (hB3.alloc (by omega) _).grown hg4 (by simp; omega) (fun j e => by have := (hown0.lt j e).1; omega); have hm4 := kept_at hg4 (hI3.alloc (.cells #[.string (valS c)] 9)).mv (fun e => by have := (hown0.lt _ e.symm).1; omega))
          | (at_mapUpdate; refine wpList_update _ rfl _ _ _ 46 rfl 9 31 Ybaf.underlying46 Ybaf.underlying9 (w.heap.size + 2) _ rfl hm4 (keyS a) rfl _ rfl ?_; rintro w5 hm5 hg5 -; have hB5 := hB4.grown hg5 (by have := hg4.size; simp at this; omega) (fun j e => by cases e; omega); have hI5 := (hI3.alloc _).putRow Hv0.out hg4 hown4 (by omega) hloc4 (ownBlock_of_row hown4) (row_cells (hown0.alloc _)) hm5 hg5; clear hm5 hg5 hm4 hg4 hown4 hloc4))
        have hI6 := hI5
        rw [addKey_old hkk] at hI6
        have hek : oKeys pre = addKey (oKeys pre) (keyS a) := (addKey_old hkk).symm
        rw [hek] at hI6
        clear hI5
        go_roundw
        case rel => exact ⟨k + 1, _, _, _, by omega, by go_num, by rw [Hps.out]; exact Inv.next hI6 (S_new hvv), hB5⟩
        case measure => simp [intOf]; omega

      · -- a new key, a known value
        go_wp2_with (first
          | (go_at_call 9; refine (key_any a hal _).mono ?_; rintro e w' ⟨rfl, rfl⟩)
          | (go_at_call 6; refine (val_any c hcl _).mono ?_; rintro e w' ⟨rfl, rfl⟩)
          | (at_lookup; refine wpList_lookup _ rfl _ _ 44 true rfl 9 33 Ybaf.underlying44 Ybaf.underlying9 .nilIface (Ybaf.zeroValue33 _) w.heap.size _ rfl (hI.alloc _).mo (keyS a) rfl (.tuple #[.nilIface, .bool false]) (by rw [getL_map, memB_of_not hkk]; rfl) ?_)
          | (at_mapUpdate; refine wpList_update _ rfl _ _ _ 44 rfl 9 33 Ybaf.underlying44 Ybaf.underlying9 w.heap.size _ rfl ((hI.alloc _).alloc _).mo (keyS a) rfl _ rfl ?_; rintro w1 hm1 hg1 -; have hB1 := ((hB.alloc (by omega) _).alloc (by simp; omega) _).grown hg1 (by simp; omega) (fun j e => by cases e; exact Nat.le_refl _); have hI1 := ((hI.alloc _).alloc _).putObj hkk (by omega) (heap_new2 _ _ _) hm1 hg1; clear hm1 hg1; have hzz1 := hI1.room)
          | (at_lookup; refine wpList_lookup _ rfl _ _ 45 false rfl 9 48 Ybaf.underlying45 Ybaf.underlying9 (.map none) (Ybaf.zeroValue48 _) (w.heap.size + 1) _ rfl hI1.mks (valS c) rfl (.map (some (sb (valS c)))) (by rw [getL_map, memB_of hvv]; rfl) ?_)
          | (at_mapUpdate; refine wpList_update _ rfl _ _ _ 48 rfl 9 49 Ybaf.underlying48 Ybaf.underlying9 _ _ rfl (hI1.sets _ hvv).2 (keyS a) rfl _ rfl ?_; rintro w3 hm3 hg3 -; have hB3 := hB1.grown hg3 (by first | omega | (simp; omega)) (fun j e => by cases e; have := (hI.sets _ hvv).1; omega); have hI3 := hI1.putKey (k := keyS a) hvv (sKeys_nodup _ _) hm3 hg3; clear hm3 hg3; have hzz3 := hI3.room; obtain ⟨n0, xs0, hn0, hown0⟩ := hI3.rowAt (keyS a); rw [← Hv0.out] at hown0)
          | (at_lookup; refine wpList_lookup _ rfl _ _ 46 false rfl 9 31 Ybaf.underlying46 Ybaf.underlying9 (.slice none 0 0) (Ybaf.zeroValue31 _) (w.heap.size + 2) _ rfl hI3.mv (keyS a) rfl v0 Hv0.out.symm ?_)
          | (at_builtin; refine wpList_append_own_at _ rfl _ _ 31 rfl (w.heap.size + 3) 9 i0 (.string ⟨#[]⟩) 1 16 Ybaf.underlying31 hi hz0 hz1 hz2 rfl (by decide) _ _ _ rfl (hown0.alloc _) ⟨w3.heap.size, 0, none⟩ 1 1 [.string (valS c)] rfl rfl (cell_one_new _ _ _) (by simp [Value.oneCell']) (by unfold maxLen; omega) (by omega) (by simp; omega) ?_; intro v4 w4 hown4 hg4 hnil4 hloc4; clear hnil4; have hB4 := (hB3.alloc (by omega) _).grown hg4 (by simp; omega) (fun j e => by have := (hown0.lt j e).1; omega); have hm4 := kept_at hg4 (hI3.alloc (.cells #[.string (valS c)] 9)).mv (fun e => by have := (hown0.lt _ e.symm).1; omega))
          | (at_mapUpdate; refine wpList_update _ rfl _ _ _ 46 rfl 9 31 Ybaf.underlying46 Ybaf.underlying9 (w.heap.size + 2) _ rfl hm4 (keyS a) rfl _ rfl ?_; rintro w5 hm5 hg5 -; have hB5 := hB4.grown hg5 (by have := hg4.size; simp at this; omega) (fun j e => by cases e; omega); have hI5 := (hI3.alloc _).putRow Hv0.out hg4 hown4 (by omega) hloc4 (ownBlock_of_row hown4) (row_cells (hown0.alloc _)) hm5 hg5; clear hm5 hg5 hm4 hg4 hown4 hloc4))
        have hI6 := hI5
        have hev : vVals pre = addKey (vVals pre) (valS c) := (addKey_old hvv).symm
        rw [hev] at hI6
        clear hI5
        go_roundw
        case rel => exact ⟨k + 1, _, _, _, by omega, by go_num, by rw [Hps.out]; exact Inv.next hI6 (S_old), hB5⟩
        case measure => simp [intOf]; omega

      · -- a new key, a new value
        go_wp2_with (first
          | (go_at_call 9; refine (key_any a hal _).mono ?_; rintro e w' ⟨rfl, rfl⟩)
          | (go_at_call 6; refine (val_any c hcl _).mono ?_; rintro e w' ⟨rfl, rfl⟩)
          | (at_lookup; refine wpList_lookup _ rfl _ _ 44 true rfl 9 33 Ybaf.underlying44 Ybaf.underlying9 .nilIface (Ybaf.zeroValue33 _) w.heap.size _ rfl (hI.alloc _).mo (keyS a) rfl (.tuple #[.nilIface, .bool false]) (by rw [getL_map, memB_of_not hkk]; rfl) ?_)
          | (at_mapUpdate; refine wpList_update _ rfl _ _ _ 44 rfl 9 33 Ybaf.underlying44 Ybaf.underlying9 w.heap.size _ rfl ((hI.alloc _).alloc _).mo (keyS a) rfl _ rfl ?_; rintro w1 hm1 hg1 -; have hB1 := ((hB.alloc (by omega) _).alloc (by simp; omega) _).grown hg1 (by simp; omega) (fun j e => by cases e; exact Nat.le_refl _); have hI1 := ((hI.alloc _).alloc _).putObj hkk (by omega) (heap_new2 _ _ _) hm1 hg1; clear hm1 hg1; have hzz1 := hI1.room)
          | (at_lookup; refine wpList_lookup _ rfl _ _ 45 false rfl 9 48 Ybaf.underlying45 Ybaf.underlying9 (.map none) (Ybaf.zeroValue48 _) (w.heap.size + 1) _ rfl hI1.mks (valS c) rfl (.map none) (by rw [getL_map, memB_of_not hvv]; rfl) ?_)
          | (at_mapUpdate; refine wpList_update _ rfl _ _ _ 45 rfl 9 48 Ybaf.underlying45 Ybaf.underlying9 (w.heap.size + 1) _ rfl (hI1.alloc (.map #[] 0)).mks (valS c) rfl _ rfl ?_; rintro w2 hm2 hg2 -; have hB2 := (hB1.alloc (by first | omega | (simp; omega)) _).grown hg2 (by first | omega | (simp; omega)) (fun j e => by cases e; omega); have hI2 := (hI1.alloc (.map #[] 0)).putSet hvv (by first | omega | (simp; omega)) (by first | exact heap_alloc_new _ _ | exact heap_new2 _ _ _) (fun u hu => by have := lt_of_some (hI1.sets u hu).2; first | omega | (simp at this ⊢; omega)) hm2 hg2; clear hm2 hg2; have hzz2 := hI2.room; have hset2 := (hI2.sets _ (mem_addKey.2 (.inr rfl))).2; simp only [upd_same] at hset2)
          | (at_mapUpdate; refine wpList_update _ rfl _ _ _ 48 rfl 9 49 Ybaf.underlying48 Ybaf.underlying9 _ _ rfl hset2 (keyS a) rfl _ rfl ?_; rintro w3 hm3 hg3 -; have hB3 := hB2.grown hg3 (by first | omega | (simp; omega)) (fun j e => by cases e; omega); have hI3 := hI2.putKey (k := keyS a) (mem_addKey.2 (.inr rfl)) (by simp [upd_same]) (by rw [upd_same, upd_same]; exact hm3) (by rw [upd_same]; exact hg3); clear hm3 hg3; have hzz3 := hI3.room; obtain ⟨n0, xs0, hn0, hown0⟩ := hI3.rowAt (keyS a); rw [← Hv0.out] at hown0)
          | (at_lookup; refine wpList_lookup _ rfl _ _ 46 false rfl 9 31 Ybaf.underlying46 Ybaf.underlying9 (.slice none 0 0) (Ybaf.zeroValue31 _) (w.heap.size + 2) _ rfl hI3.mv (keyS a) rfl v0 Hv0.out.symm ?_)
          | (at_builtin; refine wpList_append_own_at _ rfl _ _ 31 rfl (w.heap.size + 3) 9 i0 (.string ⟨#[]⟩) 1 16 Ybaf.underlying31 hi hz0 hz1 hz2 rfl (by decide) _ _ _ rfl (hown0.alloc _) ⟨w3.heap.size, 0, none⟩ 1 1 [.string (valS c)] rfl rfl (cell_one_new _ _ _) (by simp [Value.oneCell']) (by unfold maxLen; omega) (by omega) (by simp; omega) ?_; intro v4 w4 hown4 hg4 hnil4 hloc4; clear hnil4; have hB4 := (hB3.alloc (by omega) _).grown hg4 (by simp; omega) (fun j e => by have := (hown0.lt j e).1; omega); have hm4 := kept_at hg4 (hI3.alloc (.cells #[.string (valS c)] 9)).mv (fun e => by have := (hown0.lt _ e.symm).1; omega))
          | (at_mapUpdate; refine wpList_update _ rfl _ _ _ 46 rfl 9 31 Ybaf.underlying46 Ybaf.underlying9 (w.heap.size + 2) _ rfl hm4 (keyS a) rfl _ rfl ?_; rintro w5 hm5 hg5 -; have hB5 := hB4.grown hg5 (by have := hg4.size; simp at this; omega) (fun j e => by cases e; omega); have hI5 := (hI3.alloc _).putRow Hv0.out hg4 hown4 (by omega) hloc4 (ownBlock_of_row hown4) (row_cells (hown0.alloc _)) hm5 hg5; clear hm5 hg5 hm4 hg4 hown4 hloc4))
        have hI6 := hI5
        clear hI5
        go_roundw
        case rel => exact ⟨k + 1, _, _, _, by omega, by go_num, by rw [Hps.out]; exact Inv.next hI6 (S_new hvv), hB5⟩
        case measure => simp [intOf]; omega

    · go_wp2_with (refine wpList_insert _ rfl _ _ _ 55 rfl 9 50 Ybaf.underlying55 Ybaf.underlying9 wr.heap.size [] rfl (heap_old2 _ _ _) _ rfl (.pointer (some ⟨wr.heap.size + 1, 0, none⟩)) rfl ?_; rintro w1 hm1 hg1 -)
      go_ret
      obtain ⟨⟨xi, xm, ob', sb', vv', hS⟩, hb⟩ := store_end (by omega) hI hB hm1 hg1
      exact ⟨_, xi, xm, ob', sb', vv', rfl, hS, hb⟩
end Go.Proofs.YbulkaqzgFmt

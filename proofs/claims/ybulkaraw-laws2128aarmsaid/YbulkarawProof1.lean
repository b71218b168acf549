/-
  'Rows.LawS2128AArmSaid' PROVED.
-/
import Derived.Test.YbulkarawRows
import Derived.Test.YbulkarawArm
import Derived.ProofKit
import Derived.OpenShut
import Derived.Carry
import Derived.ChangeSlices
import Derived.Deep.Grids
namespace Go.Proofs.Ybulkaraw
open Go.ChangeShapes Go.WideShapes Go.ChangeAt Go.RowKit Go.Deep

theorem Yba.own : ownKnob Yba.prog.godebug = none := by kernel_rfl
theorem Yba.laidOut : laidOutB Yba.prog = true := by kernel_rfl
theorem Yba.cells3 : Yba.prog.cellsOf 3 = 1 := by kernel_rfl
theorem Yba.cells4 : Yba.prog.cellsOf 4 = 1 := by kernel_rfl

/-- A SLICE OF INTEGERS, OPENED. -/
theorem open_row {H : Type} {enc : TypeId × Value → H} {W : World} {a0 : Option Addr} {len cap fuel : Nat} {d0 : DataW H} {p0 : List MemPlace} {t e : TypeId} {k : IntKind} (ht : Yba.prog.underlying t = some (.slice e)) (he : Yba.prog.underlying e = some (.int k)) (hc : Yba.prog.cellsOf e = 1)
    (hf : DataW.trod enc Yba.prog W 0 (fun _ => true) true fuel t (Value.slice a0 len cap).cells.toList = some (d0, p0)) :
    ∃ zs : List Int, zs.length = len ∧ len ≤ cap ∧ len ≤ maxLen ∧ (∀ z ∈ zs, (Lit.int k z).wf = true) ∧
      (zs ≠ [] → ∃ b off, a0 = some ⟨b, off, none⟩ ∧ b < W.heap.size ∧ ∀ j, j < zs.length → W.cell? ⟨b, off + j, none⟩ = some (.int k (zs.getD j 0))) := by
  rcases open_ints ht he hc hf with ⟨hcs, _⟩ | ⟨a, len', cap', zs, hcs, _, hl, hm, hz, _, hcell, hwz⟩
  · simp [Value.cells] at hcs
    obtain ⟨rfl, rfl, rfl⟩ := hcs
    exact ⟨[], rfl, Nat.le_refl _, by simp [maxLen], by simp, by simp⟩
  · simp [Value.cells] at hcs
    obtain ⟨rfl, rfl, rfl⟩ := hcs
    simp only [if_true] at hz
    refine ⟨zs.take len, by simp; omega, hl, by omega, fun z hz => hwz z (List.mem_of_mem_take hz), fun hne => ?_⟩
    have hpos : 0 < zs.length := by
      rcases zs with _ | ⟨z, r⟩
      · simp at hne
      · simp
    obtain ⟨b, off, spot⟩ := a
    have hspot : spot = none := by simpa [Addr.add] using World.cell?_spot (hcell 0 hpos)
    subst hspot
    refine ⟨b, off, rfl, World.block_lt_of_cell? W _ (hcell 0 hpos), fun j hj => ?_⟩
    simp at hj
    have h1 := hcell j (by omega)
    rw [Addr.add_lit] at h1
    rw [h1, List.getD_eq_getElem?_getD, List.getD_eq_getElem?_getD, List.getElem?_take, if_pos (by omega)]

/-- A SLICE OF BOOLS, OPENED. -/
theorem open_flags {H : Type} {enc : TypeId × Value → H} {W : World} {a0 : Option Addr} {len cap fuel : Nat} {d0 : DataW H} {p0 : List MemPlace}
    (hf : DataW.trod enc Yba.prog W 0 (fun _ => true) true fuel 23 (Value.slice a0 len cap).cells.toList = some (d0, p0)) :
    ∃ bs : List Bool, bs.length = len ∧ len ≤ maxLen ∧ Bools W W.heap.size a0 bs := by
  rcases open_bools Yba.underlying23 Yba.underlying4 Yba.cells4 hf with ⟨hcs, _⟩ | ⟨a, len', cap', B, hcs, _, hl, hm, _, hcell⟩
  · simp [Value.cells] at hcs
    obtain ⟨rfl, rfl, rfl⟩ := hcs
    exact ⟨[], rfl, by simp [maxLen], ⟨by simp⟩⟩
  · simp [Value.cells] at hcs
    obtain ⟨rfl, rfl, rfl⟩ := hcs
    refine ⟨(List.range len).map B, by simp, by omega, ⟨fun hne => ?_⟩⟩
    have hpos : 0 < len := by
      rcases Nat.eq_zero_or_pos len with h0 | h0
      · subst h0; simp at hne
      · exact h0
    obtain ⟨b, off, spot⟩ := a
    have hspot : spot = none := by simpa [Addr.add] using World.cell?_spot (hcell 0 (by omega))
    subst hspot
    refine ⟨b, off, rfl, World.block_lt_of_cell? W _ (hcell 0 (by omega)), fun j hj => ?_⟩
    simp at hj
    have h1 := hcell j (by omega)
    rw [Addr.add_lit] at h1
    rw [h1]
    simp [List.getD, hj]

set_option maxRecDepth 100000 in
theorem arm_lifted (os : Os) (started : os.Started) (H : Type) (enc : TypeId × Value → H) :
    ReturnsInHanded {} Yba.checked os 3 .any (Rows.lawS2128AArmSpec.pre6 enc Yba.prog Yba.f3 Rows.lawS2128AArmRow.domain false) (Rows.lawS2128AArmSpec.post enc Yba.prog Yba.f3 false true false false) := by
  refine returnsInHanded_of_change (C := Yba.checked) Yba.own started (by kernel_rfl) Yba.func3
    (ChangeSpec.witness6 (enc := enc) (C := Yba.checked) false ⟨#[], #[.slice none 0 0, .slice none 0 0, .int .i64 0, .int .u64 0], []⟩ 8 (by kernel_rfl) (by kernel_rfl) (by kernel_rfl) (by kernel_rfl)) ?_
  intro W base args ds gs before hval0 hW hcnd _
  have hval : ∀ (j : Nat) t v, Yba.f3.params[j]? = some t → args[j]? = some v → Value.okWide Yba.prog W .any base t v := hval0
  have hW' := hW
  obtain ⟨p, q, hA0, hV, rfl, hfz, hnd⟩ := hW
  have hA : DataW.TrodAll enc Yba.prog W 0 (fun _ => true) true Yba.f3.params.toList args.toList ds p := hA0
  rw [Yba.params3] at hA hval
  obtain ⟨v0, v1, v2, v3, d0, d1, d2, d3, p0, p1, p2, p3, rfl, rfl, rfl, h0, h1, h2, h3⟩ := trodAll_four hA
  obtain ⟨rfl, rfl⟩ := trodVars_none hV
  obtain ⟨a0, len, cap, rfl⟩ := okWide_slice Yba.underlying22 (hval 0 22 v0 rfl rfl)
  obtain ⟨a1, len1, cap1, rfl⟩ := okWide_slice Yba.underlying23 (hval 1 23 v1 rfl rfl)
  obtain ⟨i, rfl, rfl, rfl, wi⟩ := open_int Yba.underlying3 (hval 2 3 v2 rfl rfl) h2
  obtain ⟨k, rfl, rfl, rfl, wk⟩ := open_int Yba.underlying24 (hval 3 24 v3 rfl rfl) h3
  clear hA0 hval0
  have h0k := h0
  have h1k := h1
  obtain ⟨fuel, hf⟩ := h0
  obtain ⟨fuel1, hf1⟩ := h1
  have hlt : ∀ x ∈ p0, x.block < W.heap.size := fun x hx => hW'.lt x (by simp [hx])
  have hlt1 : ∀ x ∈ p1, x.block < W.heap.size := fun x hx => hW'.lt x (by simp [hx])
  obtain ⟨zs, rfl, _, hmax, _, hz⟩ := open_row Yba.underlying22 Yba.underlying3 Yba.cells3 hf
  obtain ⟨bs, rfl, hmax1, hB⟩ := open_flags hf1
  have bk : 0 ≤ k ∧ k ≤ 18446744073709551615 := by simpa [Lit.wf, IntKind.min, IntKind.max, IntKind.signed, IntKind.bits] using wk
  obtain ⟨kn, rfl⟩ := Int.eq_ofNat_of_zero_le bk.1
  have walk : Calls Yba.prog 3 #[.slice a0 zs.length cap, .slice a1 bs.length cap1, .int .i64 i, .int .u64 (kn : Int)] W fun e w' => e = .returned (.bool true) ∧ Below W.heap.size W w' := by
    by_cases hn : 0 < zs.length ∧ zs.length ≤ 1024
    · obtain ⟨b, off, rfl, hb, hc⟩ := hz (by intro e; simp [e] at hn)
      exact arm_in b off a1 zs bs cap cap1 i kn W hn.2 hn.1 hmax1 hc hb hB (by omega)
    · exact arm_out a0 a1 zs.length cap bs.length cap1 i kn W (by omega) hmax
  refine walk.mono fun e W' ⟨he, hb⟩ => ?_
  subst he
  refine ⟨_, rfl, _, _, _, [], p0 ++ (p1 ++ ([] ++ [])), [], hW', ?_, ?_, rfl, hb.frame _, fun h => by cases h⟩
  · exact trodAll_mk1 (shut_bool Yba.underlying4 _)
  · exact trodAll_mk4 (Below.trod Yba.laidOut (by kernel_rfl) (of_decide_eq_true (by kernel_rfl)) h0k hb hlt) (Below.trod Yba.laidOut (by kernel_rfl) (of_decide_eq_true (by kernel_rfl)) h1k hb hlt1) (shut_int Yba.underlying3 wi) (shut_int Yba.underlying24 wk)

theorem arm_holds : Rows.LawS2128AArmSaid :=
  OpenClaim.holds_of_wide 3 Yba.f3 rfl rfl rfl rfl rfl rfl rfl ⟨rfl, rfl, rfl, rfl, rfl⟩ rfl rfl rfl rfl rfl (by kernel_rfl) Yba.func3 (by kernel_rfl)
    (of_decide_eq_true (by kernel_rfl)) (by unfold Func.isWrapper; first | (rw [if_pos (by decide +kernel)]; kernel_rfl) | (rw [if_neg (by decide +kernel)]; exact ⟨rfl, rfl⟩))
    (fun os started H enc _ => arm_lifted os started H enc)
end Go.Proofs.Ybulkaraw

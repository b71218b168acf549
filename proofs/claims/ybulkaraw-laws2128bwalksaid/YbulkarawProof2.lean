/-
  'Rows.LawS2128BWalkSaid' PROVED.
-/
import Derived.Test.YbulkarawSteps
namespace Go.Proofs.Ybulkaraw
open Go.ChangeShapes Go.WideShapes Go.ChangeAt Go.RowKit Go.Deep

set_option maxRecDepth 100000 in
theorem walk_lifted (os : Os) (started : os.Started) (H : Type) (enc : TypeId × Value → H) :
    ReturnsInHanded {} Yba.checked os 4 .any (Rows.lawS2128BWalkSpec.pre6 enc Yba.prog Yba.f4 Rows.lawS2128BWalkRow.domain false) (Rows.lawS2128BWalkSpec.post enc Yba.prog Yba.f4 false true false false) := by
  refine returnsInHanded_of_change (C := Yba.checked) Yba.ownKnob started (by kernel_rfl) Yba.func4
    (ChangeSpec.witness6 (enc := enc) (C := Yba.checked) false ⟨#[], #[.slice none 0 0, .int .u8 0, .int .u8 0, .int .i64 0], []⟩ 8 (by kernel_rfl) (by kernel_rfl) (by kernel_rfl) (by kernel_rfl)) ?_
  intro W base args ds gs before hval0 hW hcnd _
  have hval : ∀ (j : Nat) t v, Yba.f4.params[j]? = some t → args[j]? = some v → Value.okWide Yba.prog W .any base t v := hval0
  have hW' := hW
  obtain ⟨p, q, hA0, hV, rfl, hfz, hnd⟩ := hW
  have hA : DataW.TrodAll enc Yba.prog W 0 (fun _ => true) true Yba.f4.params.toList args.toList ds p := hA0
  rw [Yba.params4] at hA hval
  obtain ⟨v0, v1, v2, v3, d0, d1, d2, d3, p0, p1, p2, p3, rfl, rfl, rfl, h0, h1, h2, h3⟩ := trodAll_four hA
  obtain ⟨rfl, rfl⟩ := trodVars_none hV
  obtain ⟨a0, len, cap, rfl⟩ := okWide_slice Yba.underlying47 (hval 0 47 v0 rfl rfl)
  obtain ⟨i, rfl, rfl, rfl, wi⟩ := open_int Yba.underlying5 (hval 1 5 v1 rfl rfl) h1
  obtain ⟨k, rfl, rfl, rfl, wk⟩ := open_int Yba.underlying5 (hval 2 5 v2 rfl rfl) h2
  obtain ⟨key, rfl, rfl, rfl, wkey⟩ := open_int Yba.underlying3 (hval 3 3 v3 rfl rfl) h3
  clear hA0 hval0
  have h0k := h0
  obtain ⟨fuel, hf⟩ := h0
  have hlt : ∀ x ∈ p0, x.block < W.heap.size := fun x hx => hW'.lt x (by simp [hx])
  obtain ⟨b, off, O, A, hs⟩ := open_steps hf
  obtain ⟨D, rfl, hD⟩ := byte_nat wi
  obtain ⟨K, rfl, hK⟩ := byte_nat wk
  have walk : Calls Yba.prog 4 #[.slice a0 len cap, .int .u8 (D : Int), .int .u8 (K : Int), .int .i64 key] W fun e w' => e = .returned (.bool true) ∧ Below W.heap.size W w' :=
    law4_spec a0 b off len cap hs.at' O A W hs.lt hs.le hs.c0 hs.c1 hs.o hs.a D K hD hK key
  refine walk.mono fun e W' ⟨he, hb⟩ => ?_
  subst he
  refine ⟨_, rfl, _, _, _, [], p0 ++ ([] ++ ([] ++ [])), [], hW', ?_, ?_, rfl, hb.frame _, fun h => by cases h⟩
  · exact trodAll_mk1 (shut_bool Yba.underlying4 _)
  · exact trodAll_mk4 (Below.trod Yba.laid (by kernel_rfl) (of_decide_eq_true (by kernel_rfl)) h0k hb hlt) (shut_int Yba.underlying5 wi) (shut_int Yba.underlying5 wk) (shut_int Yba.underlying3 wkey)

theorem walk_holds : Rows.LawS2128BWalkSaid :=
  OpenClaim.holds_of_wide 4 Yba.f4 rfl rfl rfl rfl rfl rfl rfl ⟨rfl, rfl, rfl, rfl, rfl⟩ rfl rfl rfl rfl rfl (by kernel_rfl) Yba.func4 (by kernel_rfl)
    (of_decide_eq_true (by kernel_rfl)) (by unfold Func.isWrapper; first | (rw [if_pos (by decide +kernel)]; kernel_rfl) | (rw [if_neg (by decide +kernel)]; exact ⟨rfl, rfl⟩))
    (fun os started H enc _ => walk_lifted os started H enc)
end Go.Proofs.Ybulkaraw

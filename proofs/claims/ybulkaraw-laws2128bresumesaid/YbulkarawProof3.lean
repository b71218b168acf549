/-
  'Rows.LawS2128BResumeSaid' PROVED.
-/
import Derived.Test.YbulkarawSteps
import Derived.Test.YbulkarawLaw5
namespace Go.Proofs.Ybulkaraw
open Go.ChangeShapes Go.WideShapes Go.ChangeAt Go.RowKit Go.Deep

section
variable {H : Type} {enc : TypeId × Value → H} {P : Program} {w : World} {base : Nat} {spare : Nat → Bool} {held : Bool}

theorem trodAll_five {t t1 t2 t3 t4 : TypeId} {args : Array Value} {ds : List (DataW H)} {ps : List MemPlace} (h : DataW.TrodAll enc P w base spare held [t, t1, t2, t3, t4] args.toList ds ps) :
    ∃ v v1 v2 v3 v4 d d1 d2 d3 d4 p p1 p2 p3 p4, args = #[v, v1, v2, v3, v4] ∧ ds = [d, d1, d2, d3, d4] ∧ ps = p ++ p1 ++ p2 ++ p3 ++ p4 ∧ DataW.Trod enc P w base spare held t v d p ∧ DataW.Trod enc P w base spare held t1 v1 d1 p1 ∧ DataW.Trod enc P w base spare held t2 v2 d2 p2 ∧ DataW.Trod enc P w base spare held t3 v3 d3 p3 ∧ DataW.Trod enc P w base spare held t4 v4 d4 p4 := by
  obtain ⟨v, vs, d, ds', p, q, hargs, rfl, rfl, hd, hrest⟩ := trodAll_cons h
  obtain ⟨v1, vs1, d1, ds1, p1, q1, rfl, rfl, rfl, hd1, hrest1⟩ := trodAll_cons hrest
  obtain ⟨v2, vs2, d2, ds2, p2, q2, rfl, rfl, rfl, hd2, hrest2⟩ := trodAll_cons hrest1
  obtain ⟨v3, vs3, d3, ds3, p3, q3, rfl, rfl, rfl, hd3, hrest3⟩ := trodAll_cons hrest2
  obtain ⟨v4, vs4, d4, ds4, p4, q4, rfl, rfl, rfl, hd4, hrest4⟩ := trodAll_cons hrest3
  obtain ⟨rfl, rfl, rfl⟩ := trodAll_nil hrest4
  exact ⟨v, v1, v2, v3, v4, d, d1, d2, d3, d4, p, p1, p2, p3, p4, by cases args; simp_all, rfl, by simp, hd, hd1, hd2, hd3, hd4⟩

theorem trodAll_mk5 {t t1 t2 t3 t4 : TypeId} {v v1 v2 v3 v4 : Value} {d d1 d2 d3 d4 : DataW H} {p p1 p2 p3 p4 : List MemPlace} (h : DataW.Trod enc P w base spare held t v d p) (h1 : DataW.Trod enc P w base spare held t1 v1 d1 p1)
    (h2 : DataW.Trod enc P w base spare held t2 v2 d2 p2) (h3 : DataW.Trod enc P w base spare held t3 v3 d3 p3) (h4 : DataW.Trod enc P w base spare held t4 v4 d4 p4) : DataW.TrodAll enc P w base spare held [t, t1, t2, t3, t4] [v, v1, v2, v3, v4] [d, d1, d2, d3, d4] (p ++ (p1 ++ (p2 ++ (p3 ++ p4)))) :=
  ⟨p, p1 ++ (p2 ++ (p3 ++ p4)), h, trodAll_mk4 h1 h2 h3 h4, rfl⟩
end

set_option maxRecDepth 100000 in
theorem resume_lifted (os : Os) (started : os.Started) (H : Type) (enc : TypeId × Value → H) :
    ReturnsInHanded {} Yba.checked os 5 .any (Rows.lawS2128BResumeSpec.pre6 enc Yba.prog Yba.f5 Rows.lawS2128BResumeRow.domain false) (Rows.lawS2128BResumeSpec.post enc Yba.prog Yba.f5 false true false false) := by
  refine returnsInHanded_of_change (C := Yba.checked) Yba.ownKnob started (by kernel_rfl) Yba.func5
    (ChangeSpec.witness6 (enc := enc) (C := Yba.checked) false ⟨#[], #[.slice none 0 0, .int .u8 0, .int .u8 0, .int .i64 0, .int .u64 0], []⟩ 8 (by kernel_rfl) (by kernel_rfl) (by kernel_rfl) (by kernel_rfl)) ?_
  intro W base args ds gs before hval0 hW hcnd _
  have hval : ∀ (j : Nat) t v, Yba.f5.params[j]? = some t → args[j]? = some v → Value.okWide Yba.prog W .any base t v := hval0
  have hW' := hW
  obtain ⟨p, q, hA0, hV, rfl, hfz, hnd⟩ := hW
  have hA : DataW.TrodAll enc Yba.prog W 0 (fun _ => true) true Yba.f5.params.toList args.toList ds p := hA0
  rw [Yba.params5] at hA hval
  obtain ⟨v0, v1, v2, v3, v4, d0, d1, d2, d3, d4, p0, p1, p2, p3, p4, rfl, rfl, rfl, h0, h1, h2, h3, h4⟩ := trodAll_five hA
  obtain ⟨rfl, rfl⟩ := trodVars_none hV
  obtain ⟨a0, len, cap, rfl⟩ := okWide_slice Yba.underlying47 (hval 0 47 v0 rfl rfl)
  obtain ⟨i, rfl, rfl, rfl, wi⟩ := open_int Yba.underlying5 (hval 1 5 v1 rfl rfl) h1
  obtain ⟨k, rfl, rfl, rfl, wk⟩ := open_int Yba.underlying5 (hval 2 5 v2 rfl rfl) h2
  obtain ⟨key, rfl, rfl, rfl, wkey⟩ := open_int Yba.underlying3 (hval 3 3 v3 rfl rfl) h3
  obtain ⟨pk, rfl, rfl, rfl, wp⟩ := open_int Yba.underlying24 (hval 4 24 v4 rfl rfl) h4
  clear hA0 hval0
  have h0k := h0
  obtain ⟨fuel, hf⟩ := h0
  have hlt : ∀ x ∈ p0, x.block < W.heap.size := fun x hx => hW'.lt x (by simp [hx])
  obtain ⟨b, off, O, A, hs⟩ := open_steps hf
  obtain ⟨D, rfl, hD⟩ := byte_nat wi
  obtain ⟨K, rfl, hK⟩ := byte_nat wk
  have bp : 0 ≤ pk ∧ pk ≤ 18446744073709551615 := by simpa [Lit.wf, IntKind.min, IntKind.max, IntKind.signed, IntKind.bits] using wp
  obtain ⟨pick, rfl⟩ := Int.eq_ofNat_of_zero_le bp.1
  have walk : Calls Yba.prog 5 #[.slice a0 len cap, .int .u8 (D : Int), .int .u8 (K : Int), .int .i64 key, .int .u64 (pick : Int)] W fun e w' => e = .returned (.bool true) ∧ Below W.heap.size W w' :=
    law5_spec a0 b off len cap hs.at' O A W hs.lt hs.le hs.c0 hs.c1 hs.o hs.a D K hD hK key pick
  refine walk.mono fun e W' ⟨he, hb⟩ => ?_
  subst he
  refine ⟨_, rfl, _, _, _, [], p0 ++ ([] ++ ([] ++ ([] ++ []))), [], hW', ?_, ?_, rfl, hb.frame _, fun h => by cases h⟩
  · exact trodAll_mk1 (shut_bool Yba.underlying4 _)
  · exact trodAll_mk5 (Below.trod Yba.laid (by kernel_rfl) (of_decide_eq_true (by kernel_rfl)) h0k hb hlt) (shut_int Yba.underlying5 wi) (shut_int Yba.underlying5 wk) (shut_int Yba.underlying3 wkey) (shut_int Yba.underlying24 wp)

theorem resume_holds : Rows.LawS2128BResumeSaid :=
  OpenClaim.holds_of_wide 5 Yba.f5 rfl rfl rfl rfl rfl rfl rfl ⟨rfl, rfl, rfl, rfl, rfl⟩ rfl rfl rfl rfl rfl (by kernel_rfl) Yba.func5 (by kernel_rfl)
    (of_decide_eq_true (by kernel_rfl)) (by unfold Func.isWrapper; first | (rw [if_pos (by decide +kernel)]; kernel_rfl) | (rw [if_neg (by decide +kernel)]; exact ⟨rfl, rfl⟩))
    (fun os started H enc _ => resume_lifted os started H enc)
end Go.Proofs.Ybulkaraw

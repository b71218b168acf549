/-
  'Rows.LawS2126AScriptCardSaid' PROVED.
-/
import Derived.Test.YbulkaqzuDoorCards
import Derived.Test.YbulkaqzuDoorTie
import Derived.Test.YbulkaqzuDoorOpen
import Derived.Test.YbulkaqzuDoorScript
import Derived.SevenTiedAt
namespace Go.Proofs.YbulkaqzuDoor
open Go.ChangeShapes Go.WideShapes Go.ChangeAt Go.RowKit

set_option maxRecDepth 100000 in
theorem script_lifted (os : Os) (started : os.Started) (H : Type) (enc : TypeId × Value → H) :
    ReturnsInHanded {} Ybad.checked os 4 .any (fun w args => (Rows.lawS2126AScriptSpec.pre enc Ybad.prog Ybad.f4 [] false w args ∧ laidMet Ybad.prog laid1 w) ∧ sizedMet enc Ybad.prog Ybad.f4 (OpenSpec.ofChange Rows.lawS2126AScriptSpec) false w args)
      (Rows.lawS2126AScriptSpec.post enc Ybad.prog Ybad.f4 false true false false) := by
  refine returnsInHanded_of_change_and (C := Ybad.checked) (X := fun w _ => laidMet Ybad.prog laid1 w) (fun _ _ _ hh h => h.of_heap hh) Ybad.own started (by kernel_rfl) Ybad.func4
    (ChangeSpec.witness_at (enc := enc) (C := Ybad.checked) (os := os) (X := fun w _ => laidMet Ybad.prog laid1 w) false (laidWorld os) #[.slice none 0 0, .slice none 0 0] 8 rfl (by kernel_rfl) (by kernel_rfl) (by kernel_rfl) (by kernel_rfl) (by kernel_rfl) (laidWorld_met os _)) ?_
  intro W base args ds gs before hval0 hW _ _ hL _
  have hval : ∀ (j : Nat) t v, Ybad.f4.params[j]? = some t → args[j]? = some v → Value.okWide Ybad.prog W .any base t v := hval0
  have hW' := hW
  obtain ⟨p, q, hA0, hV, rfl, hfz, hnd⟩ := hW
  have hA : DataW.TrodAll enc Ybad.prog W 0 (fun _ => true) true Ybad.f4.params.toList args.toList ds p := hA0
  rw [Ybad.params4] at hA hval
  obtain ⟨v0, v1, d0, d1, p0, p1, rfl, rfl, rfl, h0, h1⟩ := trodAll_two hA
  obtain ⟨rfl, rfl⟩ := trodVars_none hV
  obtain ⟨a0, len, cap, rfl⟩ := okWide_slice Ybad.underlying22 (hval 0 22 v0 rfl rfl)
  obtain ⟨a1, len1, cap1, rfl⟩ := okWide_slice Ybad.underlying40 (hval 1 40 v1 rfl rfl)
  clear hA0 hval0
  have h0k := h0
  have h1k := h1
  obtain ⟨fuel, hf⟩ := h0
  obtain ⟨fuel1, hf1⟩ := h1
  have hlt : ∀ x ∈ p0, x.block < W.heap.size := fun x hx => hW'.lt x (by simp [hx])
  have hlt1 : ∀ x ∈ p1, x.block < W.heap.size := fun x hx => hW'.lt x (by simp [hx])
  obtain ⟨zs, rfl, hcap, hmax, _, hz⟩ := open_row Ybad.underlying22 Ybad.underlying5 Ybad.cells5 hf
  obtain ⟨us, rfl, _, hmax1, hwu, hu⟩ := open_row Ybad.underlying40 Ybad.underlying23 Ybad.cells23 hf1
  have hD : Bytes W W.heap.size a0 zs := ⟨hz⟩
  have hb : ∀ j, 0 ≤ us.getD j 0 ∧ us.getD j 0 ≤ 65535 := by
    intro j
    rw [List.getD_eq_getElem?_getD]
    cases hj : us[j]? with
    | none => simp
    | some z =>
      have := hwu z (List.mem_of_getElem? hj)
      simpa [Lit.wf, IntKind.min, IntKind.max, IntKind.signed, IntKind.bits] using this
  have hU : Steps W W.heap.size a1 (us.map Int.toNat) := by
    refine ⟨fun j => ?_, fun hne => ?_⟩
    · have := hb j
      rw [List.getD_eq_getElem?_getD] at this
      rw [List.getD_eq_getElem?_getD, List.getElem?_map]
      cases hj : us[j]? with
      | none => simp
      | some z => rw [hj] at this; simp at this ⊢; omega
    · obtain ⟨b, off, h1, h2, h3⟩ := hu (by intro e; simp [e] at hne)
      refine ⟨b, off, h1, h2, fun j hj => ?_⟩
      simp at hj
      rw [h3 j hj]
      have := hb j
      rw [List.getD_eq_getElem?_getD, List.getElem?_eq_getElem hj] at this ⊢
      rw [List.getD_eq_getElem?_getD, List.getElem?_map, List.getElem?_eq_getElem hj]
      simp at this ⊢
      omega
  have walk : Calls Ybad.prog 4 #[.slice a0 zs.length cap, .slice a1 us.length cap1] W fun e w' => e = .returned (.bool true) ∧ Below W.heap.size W w' := by
    by_cases hn : zs.length ≤ 1024 ∧ us.length ≤ 256
    · have := script_short a0 a1 zs (us.map Int.toNat) cap cap1 W hn.1 (by simpa using hn.2) hcap hD hU
      simpa using this
    · exact script_long a0 a1 zs.length cap us.length cap1 W (by omega) hmax hmax1
  refine walk.mono fun e W' ⟨he, hb⟩ => ?_
  subst he
  refine ⟨_, rfl, _, _, _, [], p0 ++ p1, [], hW', ?_, ?_, rfl, hb.frame _, fun h => by cases h⟩
  · exact trodAll_mk1 (shut_bool Ybad.underlying4 _)
  · exact trodAll_mk2 (Below.trod Ybad.laidOut (by kernel_rfl) (of_decide_eq_true (by kernel_rfl)) h0k hb hlt) (Below.trod Ybad.laidOut (by kernel_rfl) (of_decide_eq_true (by kernel_rfl)) h1k hb hlt1)

theorem script_row_holds : Rows.LawS2126AScriptSaid :=
  OpenClaim.holds_of_wide 4 Ybad.f4 rfl rfl rfl rfl rfl rfl rfl ⟨rfl, rfl, rfl, rfl, rfl⟩ rfl rfl rfl rfl rfl (by kernel_rfl) Ybad.func4 (by kernel_rfl)
    (of_decide_eq_true (by kernel_rfl)) (by unfold Func.isWrapper; first | (rw [if_pos (by decide +kernel)]; kernel_rfl) | (rw [if_neg (by decide +kernel)]; exact ⟨rfl, rfl⟩))
    (fun os started H enc _ => script_lifted os started H enc)

theorem script_holds : Rows.LawS2126AScriptCardSaid :=
  Claim7.holds_tied_plain_at .later [] [.sentinel] true (true, "ce74b04b2d1a63bb84ffb36d45eac7267185fb62d1730a4b4f519432f4998786") true
    script_row_holds (fun _ h => by cases h) (by kernel_rfl) (fun _ h => by cases h) lawS2126AScript_row_tie rfl ⟨rfl, rfl⟩ (by kernel_rfl) rfl
    (fun f fn hf hfn => by
      obtain rfl : f = 4 := Option.some.inj ((show Ybad.prog.funcNamed "example.com/tidewire/tidewire/internal/msglog.LawS2126AScript" = some 4 by kernel_rfl).symm.trans hf) |>.symm
      obtain rfl : fn = Ybad.f4 := (Option.some.inj (Ybad.func4.symm.trans hfn)).symm
      exact ⟨by kernel_rfl, fun j t ht => by
        rw [Ybad.params4] at ht
        have hm : t ∈ [22, 40] := by simpa using Array.mem_of_getElem? ht
        have hall : ([22, 40].all fun u => !Ybad.prog.wantsStandIn u) = true := by kernel_rfl
        exact (show Ybad.prog.wantsStandIn t = false by simpa using List.all_eq_true.1 hall t hm)⟩)
    (by kernel_rfl)
end Go.Proofs.YbulkaqzuDoor

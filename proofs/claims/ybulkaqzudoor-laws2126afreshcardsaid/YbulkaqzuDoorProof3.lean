/-
  'Rows.LawS2126AFreshCardSaid' PROVED.
-/
import Derived.Test.YbulkaqzuDoorCards
import Derived.Test.YbulkaqzuDoorTie
import Derived.Test.YbulkaqzuDoorOpen
import Derived.Test.YbulkaqzuDoorFresh
import Derived.SevenTiedAt
namespace Go.Proofs.YbulkaqzuDoor
open Go.ChangeShapes Go.WideShapes Go.ChangeAt Go.RowKit

set_option maxRecDepth 100000 in
theorem fresh_lifted (os : Os) (started : os.Started) (H : Type) (enc : TypeId × Value → H) :
    ReturnsInHanded {} Ybad.checked os 3 .any (fun w args => (Rows.lawS2126AFreshSpec.pre enc Ybad.prog Ybad.f3 [] false w args ∧ laidMet Ybad.prog laid1 w) ∧ sizedMet enc Ybad.prog Ybad.f3 (OpenSpec.ofChange Rows.lawS2126AFreshSpec) false w args)
      (Rows.lawS2126AFreshSpec.post enc Ybad.prog Ybad.f3 false true false false) := by
  refine returnsInHanded_of_change_and (C := Ybad.checked) (X := fun w _ => laidMet Ybad.prog laid1 w) (fun _ _ _ hh h => h.of_heap hh) Ybad.own started (by kernel_rfl) Ybad.func3
    (ChangeSpec.witness_at (enc := enc) (C := Ybad.checked) (os := os) (X := fun w _ => laidMet Ybad.prog laid1 w) false (laidWorld os) #[.slice none 0 0, .int .u16 0] 8 rfl (by kernel_rfl) (by kernel_rfl) (by kernel_rfl) (by kernel_rfl) (by kernel_rfl) (laidWorld_met os _)) ?_
  intro W base args ds gs before hval0 hW _ _ hL _
  have hval : ∀ (j : Nat) t v, Ybad.f3.params[j]? = some t → args[j]? = some v → Value.okWide Ybad.prog W .any base t v := hval0
  have hW' := hW
  obtain ⟨p, q, hA0, hV, rfl, hfz, hnd⟩ := hW
  have hA : DataW.TrodAll enc Ybad.prog W 0 (fun _ => true) true Ybad.f3.params.toList args.toList ds p := hA0
  rw [Ybad.params3] at hA hval
  obtain ⟨v0, v1, d0, d1, p0, p1, rfl, rfl, rfl, h0, h1⟩ := trodAll_two hA
  obtain ⟨rfl, rfl⟩ := trodVars_none hV
  obtain ⟨a0, len, cap, rfl⟩ := okWide_slice Ybad.underlying22 (hval 0 22 v0 rfl rfl)
  obtain ⟨k, rfl, rfl, rfl, wk⟩ := open_int Ybad.underlying23 (hval 1 23 v1 rfl rfl) h1
  clear hA0 hval0
  have h0k := h0
  obtain ⟨fuel, hf⟩ := h0
  have hlt : ∀ x ∈ p0, x.block < W.heap.size := fun x hx => hW'.lt x (by simp [hx])
  obtain ⟨zs, rfl, hcap, hmax, _, hz⟩ := open_row Ybad.underlying22 Ybad.underlying5 Ybad.cells5 hf
  have hD : Bytes W W.heap.size a0 zs := ⟨hz⟩
  have bk : 0 ≤ k ∧ k ≤ 65535 := by simpa [Lit.wf, IntKind.min, IntKind.max, IntKind.signed, IntKind.bits] using wk
  obtain ⟨kn, rfl⟩ := Int.eq_ofNat_of_zero_le bk.1
  have walk : Calls Ybad.prog 3 #[.slice a0 zs.length cap, .int .u16 (kn : Int)] W fun e w' => e = .returned (.bool true) ∧ Below W.heap.size W w' := by
    by_cases hn : zs.length ≤ 1024
    · exact fresh_short a0 zs cap kn W hn hcap (by omega) hD
    · exact fresh_long a0 zs.length cap kn W (by omega) hmax
  refine walk.mono fun e W' ⟨he, hb⟩ => ?_
  subst he
  refine ⟨_, rfl, _, _, _, [], p0 ++ [], [], hW', ?_, ?_, rfl, hb.frame _, fun h => by cases h⟩
  · exact trodAll_mk1 (shut_bool Ybad.underlying4 _)
  · exact trodAll_mk2 (Below.trod Ybad.laidOut (by kernel_rfl) (of_decide_eq_true (by kernel_rfl)) h0k hb hlt) (shut_int Ybad.underlying23 wk)

theorem fresh_row_holds : Rows.LawS2126AFreshSaid :=
  OpenClaim.holds_of_wide 3 Ybad.f3 rfl rfl rfl rfl rfl rfl rfl ⟨rfl, rfl, rfl, rfl, rfl⟩ rfl rfl rfl rfl rfl (by kernel_rfl) Ybad.func3 (by kernel_rfl)
    (of_decide_eq_true (by kernel_rfl)) (by unfold Func.isWrapper; first | (rw [if_pos (by decide +kernel)]; kernel_rfl) | (rw [if_neg (by decide +kernel)]; exact ⟨rfl, rfl⟩))
    (fun os started H enc _ => fresh_lifted os started H enc)

theorem fresh_holds : Rows.LawS2126AFreshCardSaid :=
  Claim7.holds_tied_plain_at .later [] [.sentinel] true (true, "ce74b04b2d1a63bb84ffb36d45eac7267185fb62d1730a4b4f519432f4998786") true
    fresh_row_holds (fun _ h => by cases h) (by kernel_rfl) (fun _ h => by cases h) lawS2126AFresh_row_tie rfl ⟨rfl, rfl⟩ (by kernel_rfl) rfl
    (fun f fn hf hfn => by
      obtain rfl : f = 3 := Option.some.inj ((show Ybad.prog.funcNamed "example.com/tidewire/tidewire/internal/msglog.LawS2126AFresh" = some 3 by kernel_rfl).symm.trans hf) |>.symm
      obtain rfl : fn = Ybad.f3 := (Option.some.inj (Ybad.func3.symm.trans hfn)).symm
      exact ⟨by kernel_rfl, fun j t ht => by
        rw [Ybad.params3] at ht
        have hm : t ∈ [22, 23] := by simpa using Array.mem_of_getElem? ht
        have hall : ([22, 23].all fun u => !Ybad.prog.wantsStandIn u) = true := by kernel_rfl
        exact (show Ybad.prog.wantsStandIn t = false by simpa using List.all_eq_true.1 hall t hm)⟩)
    (by kernel_rfl)
end Go.Proofs.YbulkaqzuDoor

/-
  'Rows.LawS2125CNoIndexToldSaid' PROVED.
-/
import Derived.Test.YbulkaqzgFmtCards
import Derived.Test.YbulkaqzgFmtLaw1
import Derived.ProofKit
import Derived.Deep.SlicePairs
import Derived.Stop.JoinedTold
import Derived.SevenToldRow
import Derived.SizedLaws
namespace Go.Proofs.YbulkaqzgFmt
open Go.ChangeShapes Go.WideShapes Go.ChangeAt Go.RowKit Go.Deep
open Go.WideMaps Go.WideElems
open Go.ChangeMaps (open_string shut_string)
open Go.Extern.Stop Go.Stop Go.Extern

theorem Ybaf.own : ownKnob Ybaf.prog.godebug = none := by kernel_rfl
theorem Ybaf.laidOut : laidOutB Ybaf.prog = true := by kernel_rfl
theorem Ybaf.cells40 : Ybaf.prog.cellsOf 40 = 2 := by kernel_rfl
theorem Ybaf.cells5 : Ybaf.prog.cellsOf 5 = 1 := by kernel_rfl
theorem Ybaf.stops : Ybaf.pinned.checked.prog.stops = ["fmt.errorf"] := by kernel_rfl
theorem Ybaf.stopKnobs : Ybaf.pinned.checked.prog.stopKnobs = [] := by kernel_rfl
theorem Ybaf.quiet (os : Os) : Stop.quiet Ybaf.pinned.checked.prog os := by
  intro k hk
  rw [Ybaf.stopKnobs] at hk
  cases hk

/-- THE SLICE OF PAIRS, OPENED: what the walks ask of it. -/
theorem open_pairs {H : Type} {enc : TypeId × Value → H} {W : World} {a0 : Option Addr} {len cap fuel : Nat} {d0 : DataW H} {p0 : List MemPlace}
    (hf : DataW.trod enc Ybaf.prog W 0 (fun _ => true) true fuel 22 (Value.slice a0 len cap).cells.toList = some (d0, p0)) :
    ∃ ps : List (Nat × Nat), ps.length = len ∧ PairsAt W a0 ps ∧ len ≤ maxLen := by
  rcases open_slice_pairs Ybaf.underlying22 Ybaf.underlying40 Ybaf.cells40 rfl rfl Ybaf.cells5 Ybaf.cells5 hf with ⟨hcs, _⟩ | ⟨a, len', cap', m, n, V0, V1, D0, D1, P0, P1, hcs, _, hl, hm, hmm, hx, hcell⟩
  · simp [Value.cells] at hcs
    obtain ⟨rfl, rfl, rfl⟩ := hcs
    exact ⟨[], rfl, ⟨by simp, by simp⟩, by simp [maxLen]⟩
  · simp [Value.cells] at hcs
    obtain ⟨rfl, rfl, rfl⟩ := hcs
    simp only [if_true] at hmm
    subst hmm
    have each : ∀ i, i < len → ∃ q : Nat × Nat, V0 i = .int .u8 q.1 ∧ V1 i = .int .u8 q.2 ∧ q.1 < 256 ∧ q.2 < 256 := by
      intro i hi
      obtain ⟨_, _, h0, h1⟩ := hcell i (by omega)
      obtain ⟨x, e0, _, w0⟩ := DataW.trod_int Ybaf.underlying5 h0
      obtain ⟨y, e1, _, w1⟩ := DataW.trod_int Ybaf.underlying5 h1
      simp at e0 e1
      have b0 : 0 ≤ x ∧ x ≤ 255 := by simpa [Lit.wf, IntKind.min, IntKind.max, IntKind.signed, IntKind.bits] using w0
      have b1 : 0 ≤ y ∧ y ≤ 255 := by simpa [Lit.wf, IntKind.min, IntKind.max, IntKind.signed, IntKind.bits] using w1
      refine ⟨(x.toNat, y.toNat), ?_, ?_, by simp; omega, by simp; omega⟩
      · rw [e0]; congr 1; simp; omega
      · rw [e1]; congr 1; simp; omega
    obtain ⟨q, hq⟩ := choose_lt each
    refine ⟨(List.range len).map q, by simp, ⟨?_, ?_⟩, by omega⟩
    · intro i
      by_cases hi : i < len
      · have := hq i hi
        simp [List.getD, hi]
        exact ⟨this.2.2.1, this.2.2.2⟩
      · simp [List.getD, hi]
    · intro hne
      have hpos : 0 < len := by
        rcases Nat.eq_zero_or_pos len with h0 | h0
        · subst h0; simp at hne
        · exact h0
      obtain ⟨b, off, spot⟩ := a
      have hspot : spot = none := by simpa [Addr.add] using World.cell?_spot (hcell 0 (by omega)).1
      subst hspot
      refine ⟨b, off, rfl, ?_, ?_, ?_⟩
      · exact World.block_lt_of_cell? W _ (hcell 0 (by omega)).1
      · intro i hi
        simp at hi
        have h1 := (hcell i (by omega)).1
        rw [add_plain, (hq i hi).1] at h1
        simpa [List.getD, hi] using h1
      · intro i hi
        simp at hi
        have h1 := (hcell i (by omega)).2.1
        rw [add_plain, (hq i hi).2.1] at h1
        simpa [List.getD, hi, Nat.add_assoc] using h1

set_option maxRecDepth 100000 in
theorem noIndex_lifted (os : Os) (started : os.Started) (H : Type) (enc : TypeId × Value → H) :
    ReturnsInTold none {} Ybaf.checked os 4 .any Input.okWide ((OpenSpec.ofChange Rows.lawS2125CNoIndexSpec).preRow enc Ybaf.prog Ybaf.f4 Rows.lawS2125CNoIndexRow.domain false [])
      (fun F => ((OpenSpec.ofChange Rows.lawS2125CNoIndexSpec).at F).post enc Ybaf.prog Ybaf.f4 false true false false) (aloneAtReturn Ybaf.prog) nothingAlways := by
  refine returnsInTold_of_row (C := Ybaf.checked) (s := OpenSpec.ofChange Rows.lawS2125CNoIndexSpec) (by kernel_rfl) Ybaf.own started (by kernel_rfl) Ybaf.func4
    (OpenSpec.witness_stopped (enc := enc) (C := Ybaf.checked) false ⟨#[], #[.slice none 0 0, .string ⟨#[]⟩, .int .u8 0], []⟩ 8 (by kernel_rfl) (by kernel_rfl) (by kernel_rfl) (by kernel_rfl)) ?_
  intro F W base args ds gs before _ hF hval0 hW _ _ hsz _ _
  have hval : ∀ (j : Nat) t v, Ybaf.f4.params[j]? = some t → args[j]? = some v → Value.okWide Ybaf.prog W .any base t v := hval0
  have hW' := hW
  obtain ⟨p, q, hA0, hV, rfl, hfz, hnd⟩ := hW
  have hA : DataW.TrodAll enc Ybaf.prog W 0 (fun _ => true) true Ybaf.f4.params.toList args.toList ds p := hA0
  rw [Ybaf.params4] at hA hval
  obtain ⟨v0, v1, v2, d0, d1, d2, p0, p1, p2, rfl, rfl, rfl, h0, h1, h2⟩ := trodAll_three hA
  obtain ⟨rfl, rfl⟩ := trodVars_none hV
  obtain ⟨a0, len, cap, rfl⟩ := okWide_slice Ybaf.underlying22 (hval 0 22 v0 rfl rfl)
  obtain ⟨nm, rfl, rfl, rfl, wnm⟩ := open_string Ybaf.underlying9 (hval 1 9 v1 rfl rfl) h1
  obtain ⟨k, rfl, rfl, rfl, wk⟩ := open_int Ybaf.underlying5 (hval 2 5 v2 rfl rfl) h2
  clear hA0 hval0
  have h0k := h0
  obtain ⟨fuel, hf⟩ := h0
  have hlt : ∀ x ∈ p0, x.block < W.heap.size := fun x hx => hW'.lt x (by simp [hx])
  obtain ⟨ps, rfl, hp, hmax⟩ := open_pairs hf
  have bk : 0 ≤ k ∧ k ≤ 255 := by simpa [Lit.wf, IntKind.min, IntKind.max, IntKind.signed, IntKind.bits] using wk
  obtain ⟨kn, rfl⟩ := Int.eq_ofNat_of_zero_le bk.1
  have walk : Calls Ybaf.prog 4 #[.slice a0 ps.length cap, .string nm, .int .u8 (kn : Int)] W fun e w' => e = .returned (.bool true) ∧ Below W.heap.size W w' := by
    by_cases hn : ps.length ≤ 1024
    · exact noIndex_short F.told a0 ps cap nm kn (by omega) W hF hp hn
    · exact noIndex_long a0 ps.length cap nm kn W (by omega) hmax
  refine walk.mono fun e W' ⟨he, hb⟩ => ?_
  subst he
  refine ⟨_, rfl, _, _, _, [], p0 ++ ([] ++ []), [], hW', ?_, ?_, rfl, hb.frame _, fun h => by cases h⟩
  · exact trodAll_mk1 (shut_bool Ybaf.underlying4 _)
  · exact trodAll_mk3 (Below.trod Ybaf.laidOut (by kernel_rfl) (of_decide_eq_true (by kernel_rfl)) h0k hb hlt) (shut_string Ybaf.underlying9 wnm) (shut_int Ybaf.underlying5 wk)

theorem noIndex_holds : Rows.LawS2125CNoIndexToldSaid :=
  Claim7.holds_of_told_any 4 Ybaf.f4 "fmt.errorf" [] [] _ _ _ (by kernel_rfl) rfl rfl rfl Ybaf.laidOut (by kernel_rfl) rfl ⟨rfl, rfl, rfl, rfl, rfl, rfl, rfl⟩ rfl rfl (by kernel_rfl) (by kernel_rfl) Ybaf.func4 (by kernel_rfl)
    (of_decide_eq_true (by kernel_rfl)) (by unfold Func.isWrapper; first | (rw [if_pos (by decide +kernel)]; kernel_rfl) | (rw [if_neg (by decide +kernel)]; exact ⟨rfl, rfl⟩)) Ybaf.stops.symm rfl Ybaf.stopKnobs.symm (by kernel_rfl)
    (by kernel_rfl) (by kernel_rfl) (by kernel_rfl) (by kernel_rfl) (by kernel_rfl) (by kernel_rfl) (by kernel_rfl) (by kernel_rfl) (by kernel_rfl) rfl (by kernel_rfl) rfl rfl
    rfl rfl
    rfl (by kernel_rfl) (by kernel_rfl) (by kernel_rfl) (by decide) (by kernel_rfl)
    (OpenClaim.moreEntering_of (by kernel_rfl) (by kernel_rfl) (by kernel_rfl) (by kernel_rfl) (by kernel_rfl) (by kernel_rfl) (by kernel_rfl) (by kernel_rfl) (by kernel_rfl) (by kernel_rfl))
    ⟨_, WideRow.started_initial, Ybaf.quiet _⟩
    (fun os started _ H enc _ => noIndex_lifted os started H enc)
end Go.Proofs.YbulkaqzgFmt

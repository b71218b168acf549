/-
  '(*window).from' OVER A READER THAT DOES NOT FAIL: ALL ITS WAYS.
-/
import Derived.Test.YbulkaqzuDoorMake
import Derived.Test.YbulkaqzuDoorReuse
import Derived.Test.YbulkaqzuDoorKeep
import Derived.Test.YbulkaqzuDoorNil
import Derived.Test.YbulkaqzuDoorSame
namespace Go.Proofs.YbulkaqzuDoor
open Go.RowKit

/-- What the window's buffer holds. -/
structure Row (base : Nat) (zs : List Int) (at0 g bn bcap : Nat) (W : World) : Prop where
  ends : at0 + bn = zs.length
  fits : bn ≤ bcap
  big : base ≤ g
  block : ∃ cur, W.heap[g]? = some (.cells cur 5 (0, 0)) ∧ cur.size = bcap ∧ ∀ j, j < bn → cur[j]? = some (B8 (zs.getD (at0 + j) 0))

def Buf (base : Nat) (zs : List Int) (at0 : Nat) (bV : Value) (W : World) : Prop :=
  (bV = .slice none 0 0) ∨ ∃ g bn bcap, bV = .slice (some ⟨g, 0, none⟩) bn bcap ∧ Row base zs at0 g bn bcap W

theorem Row.part {base : Nat} {zs : List Int} {at0 g bn bcap : Nat} {W : World} (h : Row base zs at0 g bn bcap W) {p : Nat} (hp : at0 ≤ p) : Part W (some ⟨g, p - at0, none⟩) zs p (zs.length - p) := by
  obtain ⟨cur, h1, h2, h3⟩ := h.block
  have := h.ends
  refine ⟨fun _ => ⟨g, p - at0, rfl, fun j hj => ?_⟩⟩
  have := h3 (p - at0 + j) (by omega)
  simp only [World.cell?, h1]
  rw [show at0 + (p - at0 + j) = p + j by omega] at this
  simpa using this

theorem row_new {base : Nat} {zs : List Int} {p n g bcap : Nat} {cur : List Value} {W : World} (hp : p + n = zs.length) (hg : base ≤ g) (hG : W.heap[g]? = some (.cells ((zs.drop p).map B8 ++ cur).toArray 5 (0, 0))) (hc : n + cur.length = bcap) : Row base zs p g n bcap W := by
  refine ⟨hp, by omega, hg, _, hG, by simp; omega, fun j hj => ?_⟩
  simp only [List.getElem?_toArray]
  rw [List.getElem?_append_left (by simp; omega), List.getElem?_map, List.getElem?_drop, List.getD_eq_getElem?_getD, List.getElem?_eq_getElem (by omega)]
  rfl

/-- The window over its reader, between two calls. -/
def Win (base rb wb : Nat) (zs : List Int) (dV : Value) (at0 : Nat) (offs : List Int) (w W : World) : Prop :=
  at0 ≤ zs.length ∧ ∃ oV bV, Ready base rb wb zs.length at0 dV .nilIface oV offs bV w W ∧ Buf base zs at0 bV W

theorem part_none (W : World) (ao : Option Addr) (zs : List Int) (p n : Nat) (h : n = 0) : Part W ao zs p n := ⟨fun hn => by omega⟩

theorem from_ok (base rb wb : Nat) (dao : Option Addr) (zs : List Int) (dcap : Nat) (offs : List Int) (at0 p n : Nat) (w : World) (hl : zs.length ≤ 1024) (hol : offs.length ≤ 1024) (hdc : zs.length ≤ dcap)
    (hD : Bytes w base dao zs) (hrb : base ≤ rb) (hwb : base ≤ wb) (hw : Win base rb wb zs (.slice dao zs.length dcap) at0 offs w w) (hp : p + n = zs.length) :
    Calls Ybad.prog 8 #[.pointer (some ⟨wb, 0, none⟩), .int .i64 p] w fun e w' => ∃ ao cap at1 offs', e = .returned (.tuple #[.slice ao n cap, .nilIface]) ∧ Part w' ao zs p n ∧
      Win base rb wb zs (.slice dao zs.length dcap) at1 offs' w w' ∧ (offs' = offs ∨ offs' = offs ++ [(p : Int)]) := by
  have hn : zs.length - p = n := by omega
  obtain ⟨ha, oV, bV, hr, hb⟩ := hw
  rcases hb with rfl | ⟨g, bn, bcap, rfl, hR⟩
  · by_cases hrd : p < at0 ∨ at0 < zs.length
    · rcases Nat.eq_zero_or_pos n with h0 | hpos
      · subst h0
        refine (from_zero base rb wb dao zs dcap oV offs at0 p w hl hol hdc hr hrb hwb (by omega) (by omega)).mono ?_
        rintro e w' ⟨oV', rfl, hr'⟩
        exact ⟨none, 0, p, _, rfl, part_none _ _ _ _ _ rfl, ⟨by omega, _, _, hr', .inl rfl⟩, .inr rfl⟩
      · obtain ⟨db, doff, rfl, hdb, hDc⟩ := hD.cells (by intro e; simp [e] at hp; omega)
        refine (from_make base rb wb db doff zs dcap oV offs at0 none 0 0 p n w hl hol hdc hr hDc hdb hrb hwb (by omega) hp hpos hpos (by omega)).mono ?_
        rintro e w' ⟨g, oV', cur, rfl, hr', hg, hG, hc⟩
        have hR := row_new hp hg hG hc
        have hP := hR.part (p := p) (Nat.le_refl _)
        rw [Nat.sub_self, hn] at hP
        exact ⟨_, _, p, _, rfl, hP, ⟨by omega, _, _, hr', .inr ⟨_, _, _, rfl, hR⟩⟩, .inr rfl⟩
    · have e1 : p = zs.length := by omega
      have e2 : at0 = zs.length := by omega
      have e3 : n = 0 := by omega
      subst e1 e2 e3
      refine (from_nil base rb wb _ _ zs.length oV offs w hl hr).mono ?_
      rintro e w' ⟨rfl, hr'⟩
      exact ⟨none, 0, _, _, rfl, part_none _ _ _ _ _ rfl, ⟨Nat.le_refl _, _, _, hr', .inl rfl⟩, .inl rfl⟩
  · have he := hR.ends
    by_cases hlt : p < at0
    · have hpos : 0 < n := by omega
      obtain ⟨db, doff, rfl, hdb, hDc⟩ := hD.cells (by intro e; simp [e] at hp; omega)
      by_cases hc : n ≤ bcap
      · obtain ⟨cur, h1, h2, _⟩ := hR.block
        refine (from_reuse base rb wb db doff zs dcap oV offs at0 g bn bcap cur p n w hl hol hdc hr hDc hdb hrb hwb (by omega) hp hpos hc h1 h2 hR.big (.inl hlt)).mono ?_
        rintro e w' ⟨oV', cur', rfl, hr', hG, hc'⟩
        have hR' := row_new hp hR.big hG hc'
        have hP := hR'.part (p := p) (Nat.le_refl _)
        rw [Nat.sub_self, hn] at hP
        exact ⟨_, _, p, _, rfl, hP, ⟨by omega, _, _, hr', .inr ⟨_, _, _, rfl, hR'⟩⟩, .inr rfl⟩
      · refine (from_make base rb wb db doff zs dcap oV offs at0 _ bn bcap p n w hl hol hdc hr hDc hdb hrb hwb (by omega) hp hpos (by omega) (.inl hlt)).mono ?_
        rintro e w' ⟨g, oV', cur, rfl, hr', hg, hG, hc⟩
        have hR := row_new hp hg hG hc
        have hP := hR.part (p := p) (Nat.le_refl _)
        rw [Nat.sub_self, hn] at hP
        exact ⟨_, _, p, _, rfl, hP, ⟨by omega, _, _, hr', .inr ⟨_, _, _, rfl, hR⟩⟩, .inr rfl⟩
    · refine (from_keep base rb wb _ _ zs.length oV offs at0 g bn bcap p n w hl hr he hp (by omega) hR.fits).mono ?_
      rintro e w' ⟨ao, cap, rfl, hao, hr', hh⟩
      have hR' : Row base zs at0 g bn bcap w' := ⟨hR.ends, hR.fits, hR.big, by rw [hh]; exact hR.block⟩
      refine ⟨ao, cap, at0, _, rfl, ⟨fun hpos => ?_⟩, ⟨ha, _, _, hr', .inr ⟨_, _, _, rfl, hR'⟩⟩, .inl rfl⟩
      rw [hao hpos]
      have hP := hR'.part (p := p) (by omega)
      rw [hn] at hP
      exact hP.cells hpos

theorem from_fresh (base rb wb : Nat) (dao : Option Addr) (zs : List Int) (dcap : Nat) (oV : Value) (p n : Nat) (w : World) (hl : zs.length ≤ 1024) (hdc : zs.length ≤ dcap)
    (hD : Bytes w base dao zs) (hrb : base ≤ rb) (hwb : base ≤ wb) (hr : Ready base rb wb zs.length (0 : Nat) (.slice dao zs.length dcap) .nilIface oV [] (.slice none 0 0) w w) (hp : p + n = zs.length) :
    Calls Ybad.prog 8 #[.pointer (some ⟨wb, 0, none⟩), .int .i64 p] w fun e w' => ∃ ao cap at1 oV' bV', e = .returned (.tuple #[.slice ao n cap, .nilIface]) ∧ Part w' ao zs p n ∧
      Ready base rb wb zs.length at1 (.slice dao zs.length dcap) .nilIface oV' (if zs.length = 0 then [] else [(p : Int)]) bV' w w' := by
  have hn : zs.length - p = n := by omega
  by_cases hz : zs.length = 0
  · have e1 : p = 0 := by omega
    have e2 : n = 0 := by omega
    subst e1 e2
    rw [if_pos hz]
    have h0 : ((0 : Nat) : Int) = (zs.length : Nat) := by omega
    rw [h0] at hr ⊢
    refine (from_nil base rb wb _ _ zs.length oV [] w hl hr).mono ?_
    rintro e w' ⟨rfl, hr'⟩
    exact ⟨none, 0, _, _, _, rfl, part_none _ _ _ _ _ rfl, hr'⟩
  · rw [if_neg hz]
    rcases Nat.eq_zero_or_pos n with h0 | hpos
    · subst h0
      refine (from_zero base rb wb dao zs dcap oV [] 0 p w hl (by simp) hdc hr hrb hwb (by omega) (by omega)).mono ?_
      rintro e w' ⟨oV', rfl, hr'⟩
      exact ⟨none, 0, _, _, _, rfl, part_none _ _ _ _ _ rfl, hr'⟩
    · obtain ⟨db, doff, rfl, hdb, hDc⟩ := hD.cells (by intro e; simp [e] at hz)
      refine (from_make base rb wb db doff zs dcap oV [] 0 none 0 0 p n w hl (by simp) hdc hr hDc hdb hrb hwb (by omega) hp hpos hpos (by omega)).mono ?_
      rintro e w' ⟨g, oV', cur, rfl, hr', hg, hG, hc⟩
      have hR := row_new hp hg hG hc
      have hP := hR.part (p := p) (Nat.le_refl _)
      rw [Nat.sub_self, hn] at hP
      exact ⟨_, _, _, _, _, rfl, hP, hr'⟩
end Go.Proofs.YbulkaqzuDoor

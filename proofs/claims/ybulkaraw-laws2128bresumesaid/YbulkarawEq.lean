/-
  THE CONTRACT OF 'zzs2128beq' AT TWO EQUAL LISTS.
-/
import Derived.Test.YbulkarawRow
namespace Go.Proofs.Ybulkaraw
open Go.RowKit

/-- A slice of requests, read. -/
def ReadsAt (v : Value) (m : List Req) (W : World) : Prop := (∃ o cap, v = .slice o m.length cap) ∧ (m = [] ∨ ∃ g off cap, v = .slice (some ⟨g, off, none⟩) m.length cap ∧ ∀ i r, m[i]? = some r → W.cell? ⟨g, off + i * 6, none⟩ = some (N64 r.txn) ∧ W.cell? ⟨g, off + i * 6 + 1, none⟩ = some (N64 r.op) ∧ W.cell? ⟨g, off + i * 6 + 2, none⟩ = some (N64 r.want) ∧ W.cell? ⟨g, off + i * 6 + 3, none⟩ = some (N64 r.seq) ∧ W.cell? ⟨g, off + i * 6 + 4, none⟩ = some (N64 r.key) ∧ W.cell? ⟨g, off + i * 6 + 5, none⟩ = some (N64 r.slot))

set_option maxRecDepth 100000 in
set_option maxHeartbeats 1600000 in
theorem eq_spec (v1 v2 : Value) (m : List Req) (W : World) (h1 : ReadsAt v1 m W) (h2 : ReadsAt v2 m W) (hn : m.length ≤ 1024) :
    Calls Yba.prog 9 #[v1, v2] W fun e w' => e = .returned (.bool true) ∧ ∃ q, w' = W.drewN q := by
  obtain ⟨⟨o1, c1, rfl⟩, h1⟩ := h1
  obtain ⟨⟨o2, c2, rfl⟩, h2⟩ := h2
  go_enter Yba.func9, Yba.ntmps9
  go_wp2
  go_loopw [13] (fun u wr => ∃ i q : Nat, u = .int .i64 i ∧ i ≤ m.length ∧ wr = W.drewN q) (fun u _ => m.length - (intOf u).toNat)
  case atStart => exact ⟨0, 0, rfl, Nat.zero_le _, rfl⟩
  case round =>
    obtain ⟨i, q, rfl, hi, rfl⟩ := hrel
    rcases Nat.lt_or_eq_of_le hi with hlt | heq
    · have hne : m ≠ [] := by intro e; simp [e] at hlt
      obtain ⟨g1, f1, d1, e1, r1⟩ := h1.resolve_left hne
      obtain ⟨g2, f2, d2, e2, r2⟩ := h2.resolve_left hne
      injection e1 with e1 _ e1c
      injection e2 with e2 _ e2c
      subst e1 e2 e1c e2c
      obtain ⟨r, hr⟩ : ∃ r, m[i]? = some r := ⟨m[i], by simp [hlt]⟩
      obtain ⟨a0, a1, a2, a3, a4, a5⟩ := r1 i r hr
      obtain ⟨b0, b1, b2, b3, b4, b5⟩ := r2 i r hr
      clear r1 r2 hr h1 h2
      go_wp2
      go_quiet (fail)
      go_wp2
      exact ⟨⟨i + 1, q + nq, by simp, by omega, rfl⟩, by simp [intOf]; omega⟩
    · subst heq
      go_wp2
      go_ret
      exact ⟨rfl, q, rfl⟩
end Go.Proofs.Ybulkaraw

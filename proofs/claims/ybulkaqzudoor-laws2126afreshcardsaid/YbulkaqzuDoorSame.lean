/-
  THE CONTRACT OF 'zzs2126asame'.
-/
import Derived.Test.YbulkaqzuDoorReady
namespace Go.Proofs.YbulkaqzuDoor
open Go.RowKit

/-- What a slice of bytes holds: 'n' bytes of 'zs' from 'q' on. -/
structure Part (w : World) (ao : Option Addr) (zs : List Int) (q n : Nat) : Prop where
  cells : 0 < n → ∃ b off, ao = some ⟨b, off, none⟩ ∧ ∀ j, j < n → w.cell? ⟨b, off + j, none⟩ = some (B8 (zs.getD (q + j) 0))

set_option maxRecDepth 100000 in
set_option maxHeartbeats 1600000 in
theorem same_spec (ao dao : Option Addr) (zs : List Int) (n cap dcap q : Nat) (w : World) (hl : zs.length ≤ 1024) (hq : q + n = zs.length) (hg : Part w ao zs q n) (hd : Part w dao zs 0 zs.length) :
    Calls Ybad.prog 9 #[.slice ao n cap, .slice dao zs.length dcap, .int .i64 q] w fun e w' => e = .returned (.bool true) ∧ ∃ m, w' = w.drewN m := by
  have hql : ¬ ((zs.length : Int) < q + n) := by omega
  go_enter Ybad.func9, Ybad.ntmps9
  go_wp2
  go_loopw [7] (fun u wx => ∃ i m : Nat, u = .int .i64 i ∧ i ≤ n ∧ wx = w.drewN m) (fun u _ => match u with | .int _ k => (n - k).toNat | _ => 0)
  case atStart => exact ⟨0, 0, rfl, Nat.zero_le _, rfl⟩
  case round =>
    obtain ⟨i, m, rfl, hi, rfl⟩ := hrel
    rcases Nat.lt_or_eq_of_le hi with hlt | heq
    · obtain ⟨gb, go, rfl, hgc⟩ := hg.cells (by omega)
      obtain ⟨db, doff, rfl, hdc⟩ := hd.cells (by omega)
      have hc1 := hgc i hlt
      have hc2 := hdc (q + i) (by omega)
      have hin : (q : Int) + i < zs.length := by omega
      have hin2 : q + i < zs.length := by omega
      have hin0 : ¬ ((q : Int) + i < 0) := by omega
      have hto : ((q : Int) + i).toNat = q + i := by omega
      go_wp2
      go_quiet (fail)
      go_wp2
      refine ⟨⟨i + 1, _, by simp, hlt, rfl⟩, ?_⟩
      show ((n : Int) - (i + 1)).toNat < ((n : Int) - i).toNat
      omega
    · subst heq
      go_wp2
      go_ret
      exact ⟨rfl, m, rfl⟩
end Go.Proofs.YbulkaqzuDoor

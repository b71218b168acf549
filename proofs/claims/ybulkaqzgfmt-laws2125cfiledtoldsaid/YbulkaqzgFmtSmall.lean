import Derived.Test.YbulkaqzgFmtProg
import Derived.WalkKit
import Derived.WalkLawsBesides
namespace Go.Proofs.YbulkaqzgFmt
open Go.RowKit

/-- What 'zzs2125cval' gives. -/
def valS (n : Nat) : ByteArray := if n % 3 = 0 then ⟨#[97]⟩ else if n % 3 = 1 then ⟨#[98]⟩ else ⟨#[99]⟩

theorem val_any (n : Nat) (hn : n < 256) (w : World) :
    Calls Ybaf.prog 6 #[.int .u8 n] w fun e w' => e = .returned (.string (valS n)) ∧ w' = w := by
  rcases (show n % 3 = 0 ∨ n % 3 = 1 ∨ n % 3 = 2 from by omega) with h | h | h
  · have e : valS n = ⟨#[97]⟩ := by simp [valS, h]
    rw [e]
    have g : ((n : Int) % 3 == 0) = true := by simp; omega
    clear e h
    go_enter Ybaf.func6, Ybaf.ntmps6
    go_wp2
    go_ret
    exact ⟨rfl, rfl⟩
  · have e : valS n = ⟨#[98]⟩ := by simp [valS, h]
    rw [e]
    have g : ((n : Int) % 3 == 0) = false := by simp; omega
    have g' : ((n : Int) % 3 == 1) = true := by simp; omega
    clear e h
    go_enter Ybaf.func6, Ybaf.ntmps6
    go_wp2
    go_ret
    exact ⟨rfl, rfl⟩
  · have e : valS n = ⟨#[99]⟩ := by simp [valS, h]
    rw [e]
    have g : ((n : Int) % 3 == 0) = false := by simp; omega
    have g' : ((n : Int) % 3 == 1) = false := by simp; omega
    clear e h
    go_enter Ybaf.func6, Ybaf.ntmps6
    go_wp2
    go_ret
    exact ⟨rfl, rfl⟩

/-- What 'zzs2125ckey' gives. -/
def keyS (n : Nat) : ByteArray := ⟨#[107, UInt8.ofNat (48 + n % 8)]⟩

theorem keyS_mod (n : Nat) : keyS (n % 8) = keyS n := by simp [keyS]

theorem encode_key (r : Nat) (h : r < 8) : Utf8.encode (48 + (r : Int)) = ⟨#[UInt8.ofNat (48 + r)]⟩ := by
  match r, h with
  | 0, _ => rfl
  | 1, _ => rfl
  | 2, _ => rfl
  | 3, _ => rfl
  | 4, _ => rfl
  | 5, _ => rfl
  | 6, _ => rfl
  | 7, _ => rfl

theorem key_mk (n : Nat) : (⟨#[107]⟩ : ByteArray) ++ Utf8.encode (48 + ((n % 8 : Nat) : Int)) = keyS n := by
  rw [encode_key _ (by omega)]; rfl

theorem keyS_inj {a b : Nat} (h : keyS a = keyS b) : a % 8 = b % 8 := by
  have h2 : (keyS a).data.toList = (keyS b).data.toList := by rw [h]
  simp only [keyS, List.cons.injEq, true_and, and_true] at h2
  have h3 := congrArg UInt8.toNat h2
  simp only [UInt8.toNat_ofNat'] at h3
  omega

theorem valS_inj {a b : Nat} (h : valS a = valS b) : a % 3 = b % 3 := by
  unfold valS at h
  rcases (show a % 3 = 0 ∨ a % 3 = 1 ∨ a % 3 = 2 from by omega) with h1 | h1 | h1 <;> rcases (show b % 3 = 0 ∨ b % 3 = 1 ∨ b % 3 = 2 from by omega) with h2 | h2 | h2 <;> simp [h1, h2] at h ⊢

theorem key_any (n : Nat) (hn : n < 256) (w : World) :
    Calls Ybaf.prog 9 #[.int .u8 n] w fun e w' => e = .returned (.string (keyS n)) ∧ w' = w := by
  have hk := key_mk n
  have hsz : (Utf8.encode (48 + ((n % 8 : Nat) : Int))).size = 1 := by rw [encode_key _ (by omega)]; rfl
  obtain ⟨r, hr⟩ : ∃ r : Int, ((n % 8 : Nat) : Int) = r := ⟨_, rfl⟩
  have h0 : 0 ≤ r := by omega
  have h1 : r < 8 := by omega
  have hr' : (n : Int) % 8 = r := by omega
  rw [hr] at hk hsz
  rw [← hk]
  clear hk hr
  go_enter Ybaf.func9, Ybaf.ntmps9
  go_wp2
  go_ret
  exact ⟨rfl, rfl⟩
end Go.Proofs.YbulkaqzgFmt

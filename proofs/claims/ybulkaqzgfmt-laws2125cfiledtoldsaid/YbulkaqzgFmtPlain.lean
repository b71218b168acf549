/-
  THE PLAIN LAW BEHIND 'LawS2125CFiled': the keys filed under a value, sorted, are the keys in rising order that some pair files under it. No Go here.
-/
import Derived.Test.YbulkaqzgFmtInv
import Derived.Sort.KeysCollected
namespace Go.Proofs.YbulkaqzgFmt
open Go.RowKit

def hit (ps : List (Nat × Nat)) (v : ByteArray) (i : Nat) : Bool := ps.any fun p => decide (keyS p.1 = keyS i) && decide (valS p.2 = v)
def want (ps : List (Nat × Nat)) (v : ByteArray) (n : Nat) : List ByteArray := ((List.range n).filter (hit ps v)).map keyS

theorem want_succ (ps : List (Nat × Nat)) (v : ByteArray) (n : Nat) : want ps v (n + 1) = if hit ps v n = true then want ps v n ++ [keyS n] else want ps v n := by
  unfold want
  rw [List.range_succ, List.filter_append]
  by_cases h : hit ps v n = true
  · simp [h]
  · simp [h]

theorem want_len (ps : List (Nat × Nat)) (v : ByteArray) (n : Nat) : (want ps v n).length ≤ n := by
  unfold want
  rw [List.length_map]
  exact Nat.le_trans (List.length_filter_le _ _) (by simp)

abbrev toL (k : ByteArray) : List UInt8 := k.data.toList

theorem toL_inj {a b : ByteArray} (h : toL a = toL b) : a = b := by
  cases a
  cases b
  congr 1
  exact Array.toList_inj.1 h

theorem mem_sKeys {ps : List (Nat × Nat)} {v k : ByteArray} : k ∈ sKeys ps v ↔ ∃ p ∈ ps, valS p.2 = v ∧ keyS p.1 = k :=
  nodup_snoc (C := fun ps => k ∈ sKeys ps v ↔ ∃ p ∈ ps, valS p.2 = v ∧ keyS p.1 = k) (by simp [sKeys]) (fun l p ih => by
    rw [sKeys_snoc]
    constructor
    · intro h
      split at h
      · rename_i hv
        rcases mem_addKey.1 h with h | h
        · obtain ⟨p', h1, h2⟩ := ih.1 h
          exact ⟨p', by simp [h1], h2⟩
        · exact ⟨p, by simp, hv, h.symm⟩
      · obtain ⟨p', h1, h2⟩ := ih.1 h
        exact ⟨p', by simp [h1], h2⟩
    · rintro ⟨p', h1, h2, h3⟩
      rcases List.mem_append.1 h1 with h1 | h1
      · have := ih.2 ⟨p', h1, h2, h3⟩
        split
        · exact mem_addKey.2 (.inl this)
        · exact this
      · simp at h1
        subst h1
        rw [if_pos h2]
        exact mem_addKey.2 (.inr h3.symm)) ps

theorem mem_want {ps : List (Nat × Nat)} {v k : ByteArray} : k ∈ want ps v 8 ↔ ∃ p ∈ ps, valS p.2 = v ∧ keyS p.1 = k := by
  unfold want hit
  simp only [List.mem_map, List.mem_filter, List.mem_range, List.any_eq_true, Bool.and_eq_true, decide_eq_true_eq]
  constructor
  · rintro ⟨i, ⟨_, p, hp, h1, h2⟩, rfl⟩
    exact ⟨p, hp, h2, h1⟩
  · rintro ⟨p, hp, h1, h2⟩
    exact ⟨p.1 % 8, ⟨by omega, p, hp, (keyS_mod p.1).symm, h1⟩, by rw [keyS_mod]; exact h2⟩

theorem toL_key (i : Nat) : toL (keyS i) = [107, UInt8.ofNat (48 + i % 8)] := rfl

theorem want_sorted (ps : List (Nat × Nat)) (v : ByteArray) : ((want ps v 8).map toL).Pairwise (fun a b => leB a b = true ∧ a ≠ b) := by
  unfold want
  rw [List.map_map, List.pairwise_map]
  have h : (List.range 8).Pairwise (fun a b => a < b ∧ b < 8) := by decide
  refine (h.filter _).imp ?_
  intro a b ⟨h1, h2⟩
  simp only [Function.comp, toL_key]
  have ha : a % 8 = a := Nat.mod_eq_of_lt (by omega)
  have hb : b % 8 = b := Nat.mod_eq_of_lt h2
  rw [ha, hb]
  have hlt : UInt8.ofNat (48 + a) < UInt8.ofNat (48 + b) := by
    rw [UInt8.lt_iff_toNat_lt]
    simp
    omega
  refine ⟨?_, ?_⟩
  · simp only [leB, decide_eq_true_eq]
    apply List.le_of_lt
    exact List.cons_lt_cons_iff.2 (.inr ⟨rfl, List.cons_lt_cons_iff.2 (.inl hlt)⟩)
  · intro e
    have e2 : UInt8.ofNat (48 + a) = UInt8.ofNat (48 + b) := by
      injection e with _ e1
      injection e1
    rw [e2] at hlt
    exact absurd hlt (by simp)

theorem sorted_is_want {ps : List (Nat × Nat)} {v : ByteArray} {ks : List ByteArray} (h : ks.Perm (sKeys ps v)) : (ks.map toL).mergeSort leB = (want ps v 8).map toL := by
  have hs := want_sorted ps v
  have hn1 : ((want ps v 8).map toL).Nodup := hs.imp fun h => h.2
  have hn2 : ((sKeys ps v).map toL).Nodup := by
    have := sKeys_nodup ps v
    rw [List.nodup_iff_pairwise_ne] at this ⊢
    rw [List.pairwise_map]
    exact this.imp fun h e => h (toL_inj e)
  have hp : ((sKeys ps v).map toL).Perm ((want ps v 8).map toL) := by
    rw [List.perm_ext_iff_of_nodup hn2 hn1]
    intro a
    simp only [List.mem_map]
    constructor
    · rintro ⟨k, hk, rfl⟩
      exact ⟨k, mem_want.2 (mem_sKeys.1 hk), rfl⟩
    · rintro ⟨k, hk, rfl⟩
      exact ⟨k, mem_sKeys.2 (mem_want.1 hk), rfl⟩
  rw [mergeSort_of_perm ((h.map toL).trans hp)]
  exact List.mergeSort_of_pairwise (hs.imp fun h => h.1)
end Go.Proofs.YbulkaqzgFmt

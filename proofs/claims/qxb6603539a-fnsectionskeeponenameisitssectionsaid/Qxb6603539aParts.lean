import Derived.Test.Qxb6603539aWCfg
namespace Go.Proofs.Qxb6603539a.Ds
open Go.RowKit

theorem trm_size (s : ByteArray) : (trm s).size ≤ s.size := by unfold trm; rw [ByteArray.size_extract]; omega
theorem hnm_size (s : ByteArray) : (hnm s).size ≤ s.size := by
  unfold hnm
  split
  · split
    · simp
    · refine Nat.le_trans (trm_size _) ?_; rw [ByteArray.size_extract]; omega
  · simp
theorem nameOf_size (s : ByteArray) : (nameOf s).size ≤ s.size := by
  unfold nameOf
  split
  · refine Nat.le_trans (hnm_size _) ?_; rw [ByteArray.size_extract]; omega
  · simp
theorem stp_lo (ls : List Ln) : ∀ i, -1 ≤ (stp ls i).2.1 ∧ (stp ls i).2.1 < i
  | 0 => by simp [stp]
  | i + 1 => by
    have := stp_lo ls i
    by_cases h2 : (at' ls i).k = 2
    · rw [stp_head h2]; simp only; omega
    · by_cases h5 : (at' ls i).k = 5
      · rw [stp_bad h5]; simp only; omega
      · rw [stp_on h2 h5]; omega
theorem stp_nm {ls : List Ln} {M : Nat} (ht : ∀ i, i < ls.length → (at' ls i).t.size ≤ M) : ∀ i, i ≤ ls.length → (stp ls i).1.size ≤ M
  | 0, _ => by simp [stp]
  | i + 1, hi => by
    have := stp_nm ht i (by omega)
    by_cases h2 : (at' ls i).k = 2
    · rw [stp_head h2]; exact Nat.le_trans (nameOf_size _) (ht i (by omega))
    · by_cases h5 : (at' ls i).k = 5
      · rw [stp_bad h5]; simp
      · rw [stp_on h2 h5]; exact this
/-- A part's places, its name. -/
structure POk (n M : Nat) (p : Part) : Prop where
  lo : -1 ≤ p.h
  lt : p.h < p.e
  hi : p.e ≤ n
  nm : p.nm.size ≤ M
theorem prts_pok {ls : List Ln} {M : Nat} (ht : ∀ i, i < ls.length → (at' ls i).t.size ≤ M) : ∀ i, i ≤ ls.length → ∀ p ∈ prts ls i, POk i M p
  | 0, _, p, h => by simp [prts] at h
  | i + 1, hi, p, h => by
    have up : ∀ p ∈ prts ls i, POk (i + 1) M p := fun p hp => by
      obtain ⟨h1, h2, h3, h4⟩ := prts_pok ht i (by omega) p hp
      exact ⟨h1, h2, by omega, h4⟩
    by_cases hy : ((at' ls i).k = 2 ∨ (at' ls i).k = 5) ∧ (stp ls i).2.2 = true
    · rw [prts_yield hy.1 hy.2, List.mem_append] at h
      rcases h with h | h
      · exact up p h
      · simp only [List.mem_singleton] at h
        subst h
        have hlo := stp_lo ls i
        exact ⟨hlo.1, hlo.2, by simp only; omega, stp_nm ht i (by omega)⟩
    · rw [prts_on hy] at h; exact up p h
theorem allParts_pok {ls : List Ln} {M : Nat} (ht : ∀ i, i < ls.length → (at' ls i).t.size ≤ M) : ∀ p ∈ allParts ls, POk ls.length M p := by
  intro p h
  unfold allParts at h
  rw [List.mem_append] at h
  rcases h with h | h
  · exact prts_pok ht ls.length (Nat.le_refl _) p h
  · split at h
    · simp only [List.mem_singleton] at h
      subst h
      have hlo := stp_lo ls ls.length
      exact ⟨hlo.1, hlo.2, Int.le_refl _, stp_nm ht _ (Nat.le_refl _)⟩
    · simp at h
theorem prts_length (ls : List Ln) : ∀ i, (prts ls i).length ≤ i
  | 0 => by simp [prts]
  | i + 1 => by
    have := prts_length ls i
    by_cases h : ((at' ls i).k = 2 ∨ (at' ls i).k = 5) ∧ (stp ls i).2.2 = true
    · rw [prts_yield h.1 h.2]; simp; omega
    · rw [prts_on h]; omega
theorem allParts_length (ls : List Ln) : (allParts ls).length ≤ ls.length + 1 := by
  have := prts_length ls ls.length
  unfold allParts
  split <;> simp <;> omega
theorem entU_mem {ls : List Ln} {lo : Nat} : ∀ {d i : Nat}, i ∈ entU ls lo d → lo ≤ i ∧ i < lo + d ∧ (at' ls i).k = 3
  | 0, i, h => by simp [entU] at h
  | d + 1, i, h => by
    by_cases hk : (at' ls (lo + d)).k = 3
    · rw [entU_yes hk, List.mem_append] at h
      rcases h with h | h
      · have := entU_mem h; exact ⟨this.1, by omega, this.2.2⟩
      · simp only [List.mem_singleton] at h; subst h; exact ⟨by omega, by omega, hk⟩
    · rw [entU_no hk] at h; have := entU_mem h; exact ⟨this.1, by omega, this.2.2⟩
theorem entU_length (ls : List Ln) (lo : Nat) : ∀ d, (entU ls lo d).length ≤ d
  | 0 => by simp [entU]
  | d + 1 => by
    have := entU_length ls lo d
    by_cases hk : (at' ls (lo + d)).k = 3
    · rw [entU_yes hk]; simp; omega
    · rw [entU_no hk]; omega
theorem entsOf_mem {ls : List Ln} {x : Part} {i : Nat} {M : Nat} (hx : POk ls.length M x) (h : i ∈ entsOf ls x) : i < ls.length ∧ (at' ls i).k = 3 := by
  have := entU_mem h
  have h1 := hx.lo
  have h2 := hx.lt
  have h3 := hx.hi
  exact ⟨by omega, this.2.2⟩
theorem entsOf_length {ls : List Ln} {x : Part} {M : Nat} (hx : POk ls.length M x) : (entsOf ls x).length ≤ ls.length := by
  have := entU_length ls (x.h + 1).toNat (x.e.toNat - (x.h + 1).toNat)
  have h3 := hx.hi
  unfold entsOf; omega
end Go.Proofs.Qxb6603539a.Ds

/-
  THE PLAIN LAW behind 'FnAdvanceFirstTerminatorScan': the first place of a byte in a list; no Go in sight.
-/
import Derived.WalkKit
import Derived.Lib.Bytes
import Derived.Lib.IndexLaws
namespace Go.Proofs.Qxb6604140a.Cs
open Go.RowKit

theorem hide {p : Prop} (h : p) : Hid p := h

/-- f is the first place from p on that holds c; the list's length where there is none. -/
structure Fst (xs : List Int) (p : Nat) (c : Int) (f : Nat) : Prop where
  lo : p ≤ f
  hi : f ≤ xs.length
  hit : f < xs.length → xs.getD f 0 = c
  miss : ∀ i, p ≤ i → i < f → xs.getD i 0 ≠ c

theorem Fst.got (xs : List Int) (c : Int) : ∀ (d p : Nat), p + d = xs.length → ∃ f, Fst xs p c f
  | 0, p, h => ⟨p, Nat.le_refl _, by omega, fun h' => by omega, fun i h1 h2 => by omega⟩
  | d + 1, p, h => by
    by_cases hc : xs.getD p 0 = c
    · exact ⟨p, Nat.le_refl _, by omega, fun _ => hc, fun i h1 h2 => by omega⟩
    · obtain ⟨f, h1, h2, h3, h4⟩ := Fst.got xs c d (p + 1) (by omega)
      refine ⟨f, by omega, h2, h3, fun i hi hf => ?_⟩
      by_cases e : i = p
      · subst e; exact hc
      · exact h4 i (by omega) hf

/-! ### bytes.IndexByte over numbers -/
/-- Each number is a byte's. -/
def Byt (xs : List Int) : Prop := ∀ c ∈ xs, 0 ≤ c ∧ c ≤ 255
theorem byte_eq {a b : Int} (ha : 0 ≤ a ∧ a ≤ 255) (hb : 0 ≤ b ∧ b ≤ 255) (h : UInt8.ofNat a.toNat = b.toNat.toUInt8) : a = b := by
  have := congrArg UInt8.toNat h
  simp at this
  omega
theorem index_none {xs : List Int} {c : Int} (h : Lib.indexByte (Lib.bytesOf xs) c.toNat.toUInt8 < 0) : ∀ x ∈ xs, x ≠ c := by
  have h1 : Lib.indexByte (Lib.bytesOf xs) c.toNat.toUInt8 = -1 := by have := Lib.indexByte_ge (Lib.bytesOf xs) c.toNat.toUInt8; omega
  intro x hx hxc
  obtain ⟨k, hk, rfl⟩ := List.mem_iff_getElem.1 hx
  refine Lib.indexByte_none h1 k ?_
  simp [Lib.bytesOf, hk, hxc]
theorem index_some {xs : List Int} {c : Int} (hb : Byt xs) (hc : 0 ≤ c ∧ c ≤ 255) (h : ¬ Lib.indexByte (Lib.bytesOf xs) c.toNat.toUInt8 < 0) :
    ∃ q : Nat, Lib.indexByte (Lib.bytesOf xs) c.toNat.toUInt8 = q ∧ q < xs.length ∧ xs.getD q 0 = c ∧ ∀ x ∈ xs.take q, x ≠ c := by
  obtain ⟨q, hq⟩ : ∃ q : Nat, Lib.indexByte (Lib.bytesOf xs) c.toNat.toUInt8 = q := ⟨_, (Int.toNat_of_nonneg (by omega)).symm⟩
  obtain ⟨h1, h2⟩ := Lib.indexByte_some hq
  have hl : q < xs.length := by
    have := (List.getElem?_eq_some_iff.1 h1).1
    simpa [Lib.bytesOf] using this
  have he : xs[q] = c := by
    simp [Lib.bytesOf, hl] at h1
    exact byte_eq (hb _ (List.getElem_mem hl)) hc (by simpa using h1)
  refine ⟨q, hq, hl, by simp [List.getD, hl, he], ?_⟩
  intro x hx hxc
  obtain ⟨k, hk, rfl⟩ := List.mem_iff_getElem.1 hx
  have hk2 : k < q ∧ k < xs.length := by simp at hk; omega
  refine h2 k (by omega) ?_
  simp at hxc
  simp [Lib.bytesOf, hk2.2, hxc]

/-- Where the search in what is left from p on finds nothing, the first place is the length. -/
theorem Fst.of_none {xs : List Int} {p : Nat} {c : Int} {f : Nat} (hf : Fst xs p c f) (h : ∀ x ∈ xs.drop p, x ≠ c) : f = xs.length := by
  by_cases hl : f < xs.length
  · exfalso
    refine h (xs.getD f 0) ?_ (hf.hit hl)
    have : xs.getD f 0 = (xs.drop p)[f - p]'(by simp; have := hf.lo; omega) := by
      have := hf.lo
      simp [List.getD, hl, show p + (f - p) = f by omega]
    rw [this]; exact List.getElem_mem _
  · have := hf.hi; omega
theorem Fst.of_some {xs : List Int} {p q : Nat} {c : Int} {f : Nat} (hf : Fst xs p c f) (hq : q < (xs.drop p).length) (h1 : (xs.drop p).getD q 0 = c) (h2 : ∀ x ∈ (xs.drop p).take q, x ≠ c) : f = p + q := by
  have hql : p + q < xs.length := by simp at hq; omega
  have hlo := hf.lo
  have e1 : xs.getD (p + q) 0 = c := by rw [← h1]; simp [List.getD]
  have h3 : ¬ p + q < f := fun h => hf.miss (p + q) (by omega) h e1
  have h4 : ¬ f < p + q := fun h => by
    have hfl : f < xs.length := by omega
    refine h2 (xs.getD f 0) ?_ (hf.hit hfl)
    have : xs.getD f 0 = ((xs.drop p).take q)[f - p]'(by simp; omega) := by
      simp [List.getD, hfl, show p + (f - p) = f by omega]
    rw [this]; exact List.getElem_mem _
  omega

#print axioms Fst.of_some
#print axioms index_some
end Go.Proofs.Qxb6604140a.Cs

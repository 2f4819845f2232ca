/-
  bytes.IndexByte over numbers: what its answer says of the list; no Go in sight.
-/
import Derived.WalkKit
import Derived.Lib.Bytes
import Derived.Lib.IndexLaws
namespace Go.Proofs.Qxb6602558a.Br
open Go.RowKit

/-! ### bytes.IndexByte over numbers -/
/-- Each number is a byte's. -/
def Byt (xs : List Int) : Prop := ∀ c ∈ xs, 0 ≤ c ∧ c ≤ 255
theorem byte_eq {a b : Int} (ha : 0 ≤ a ∧ a ≤ 255) (hb : 0 ≤ b ∧ b ≤ 255) (h : UInt8.ofNat a.toNat = b.toNat.toUInt8) : a = b := by
  have := congrArg UInt8.toNat h
  simp at this
  omega
theorem index_none {xs : List Int} {c : Int} (h : Lib.indexByte (Lib.bytesOf xs) c.toNat.toUInt8 < 0) : ∀ x ∈ xs, x ≠ c := by
  have h1 : Lib.indexByte (Lib.bytesOf xs) c.toNat.toUInt8 = -1 := by have := Lib.indexByte_ge (Lib.bytesOf xs) c.toNat.toUInt8; omega
  intro x hx hxc
  obtain ⟨k, hk, rfl⟩ := List.mem_iff_getElem.1 hx
  refine Lib.indexByte_none h1 k ?_
  simp [Lib.bytesOf, hk, hxc]
theorem index_some {xs : List Int} {c : Int} (hb : Byt xs) (hc : 0 ≤ c ∧ c ≤ 255) (h : ¬ Lib.indexByte (Lib.bytesOf xs) c.toNat.toUInt8 < 0) :
    ∃ q : Nat, Lib.indexByte (Lib.bytesOf xs) c.toNat.toUInt8 = q ∧ q < xs.length ∧ xs.getD q 0 = c ∧ ∀ x ∈ xs.take q, x ≠ c := by
  obtain ⟨q, hq⟩ : ∃ q : Nat, Lib.indexByte (Lib.bytesOf xs) c.toNat.toUInt8 = q := ⟨_, (Int.toNat_of_nonneg (by omega)).symm⟩
  obtain ⟨h1, h2⟩ := Lib.indexByte_some hq
  have hl : q < xs.length := by
    have := (List.getElem?_eq_some_iff.1 h1).1
    simpa [Lib.bytesOf] using this
  have he : xs[q] = c := by
    simp [Lib.bytesOf, hl] at h1
    exact byte_eq (hb _ (List.getElem_mem hl)) hc (by simpa using h1)
  refine ⟨q, hq, hl, by simp [List.getD, hl, he], ?_⟩
  intro x hx hxc
  obtain ⟨k, hk, rfl⟩ := List.mem_iff_getElem.1 hx
  have hk2 : k < q ∧ k < xs.length := by simp at hk; omega
  refine h2 k (by omega) ?_
  simp at hxc
  simp [Lib.bytesOf, hk2.2, hxc]

#print axioms index_some
end Go.Proofs.Qxb6602558a.Br

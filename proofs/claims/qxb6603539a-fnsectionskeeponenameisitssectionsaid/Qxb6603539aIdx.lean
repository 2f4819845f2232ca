import Derived.Test.Qxb6603539aSecs
namespace Go.Proofs.Qxb6603539a.Ds
open Go.RowKit

/-- The first section of that name; the length where there is none. -/
def sidx (S : List Sc) (nm : ByteArray) : Nat := S.findIdx fun s => decide (s.nm = nm)
def kidx (K : List Ky) (nm : ByteArray) : Nat := K.findIdx fun s => decide (s.nm = nm)
def opn (S : List Sc) (nm : ByteArray) : List Sc := if sidx S nm < S.length then S else addSec S nm
def opk (S : List Sc) (i : Nat) (key : ByteArray) : List Sc := if kidx (sat S i).ks key < (sat S i).ks.length then S else addKey S i key

theorem sidx_hit {S : List Sc} {nm : ByteArray} (h : sidx S nm < S.length) : (sat S (sidx S nm)).nm = nm := by
  unfold sidx at h ⊢
  have := List.findIdx_getElem (w := h)
  simp only [sat, List.getD]
  rw [List.getElem?_eq_getElem h]
  exact of_decide_eq_true this
theorem sidx_lt {S : List Sc} {nm : ByteArray} {i : Nat} (h : i < S.length) (hn : (sat S i).nm = nm) : sidx S nm < S.length := by
  refine List.findIdx_lt_length.2 ⟨S[i], List.getElem_mem h, ?_⟩
  simp only [sat, List.getD, List.getElem?_eq_getElem h] at hn
  simpa using hn
theorem sidx_le (S : List Sc) (nm : ByteArray) : sidx S nm ≤ S.length := List.findIdx_le_length
theorem sidx_before {S : List Sc} {nm : ByteArray} {i : Nat} (h : i < sidx S nm) : (sat S i).nm ≠ nm := by
  have hl : i < S.length := Nat.lt_of_lt_of_le h (sidx_le S nm)
  have := List.not_of_lt_findIdx (p := fun s : Sc => decide (s.nm = nm)) h
  simp only [sat, List.getD, List.getElem?_eq_getElem hl]
  simpa using this
theorem kidx_hit {S : List Ky} {nm : ByteArray} (h : kidx S nm < S.length) : (kat S (kidx S nm)).nm = nm := by
  unfold kidx at h ⊢
  have := List.findIdx_getElem (w := h)
  simp only [kat, List.getD]
  rw [List.getElem?_eq_getElem h]
  exact of_decide_eq_true this
theorem kidx_lt {S : List Ky} {nm : ByteArray} {i : Nat} (h : i < S.length) (hn : (kat S i).nm = nm) : kidx S nm < S.length := by
  refine List.findIdx_lt_length.2 ⟨S[i], List.getElem_mem h, ?_⟩
  simp only [kat, List.getD, List.getElem?_eq_getElem h] at hn
  simpa using hn
theorem kidx_le (S : List Ky) (nm : ByteArray) : kidx S nm ≤ S.length := List.findIdx_le_length
theorem kidx_before {S : List Ky} {nm : ByteArray} {i : Nat} (h : i < kidx S nm) : (kat S i).nm ≠ nm := by
  have hl : i < S.length := Nat.lt_of_lt_of_le h (kidx_le S nm)
  have := List.not_of_lt_findIdx (p := fun s : Ky => decide (s.nm = nm)) h
  simp only [kat, List.getD, List.getElem?_eq_getElem hl]
  simpa using this
theorem sidx_eq {S : List Sc} {nm : ByteArray} {i : Nat} (h : i < S.length) (hn : (sat S i).nm = nm) (hb : ∀ j, j < i → (sat S j).nm ≠ nm) : sidx S nm = i := by
  have h1 := sidx_hit (sidx_lt h hn)
  have h2 : ¬ i < sidx S nm := fun e => sidx_before e hn
  have h3 : ¬ sidx S nm < i := fun e => hb _ e h1
  omega
theorem kidx_eq {S : List Ky} {nm : ByteArray} {i : Nat} (h : i < S.length) (hn : (kat S i).nm = nm) (hb : ∀ j, j < i → (kat S j).nm ≠ nm) : kidx S nm = i := by
  have h1 := kidx_hit (kidx_lt h hn)
  have h2 : ¬ i < kidx S nm := fun e => kidx_before e hn
  have h3 : ¬ kidx S nm < i := fun e => hb _ e h1
  omega
theorem sidx_none {S : List Sc} {nm : ByteArray} (h : ¬ sidx S nm < S.length) : ∀ i, i < S.length → (sat S i).nm ≠ nm := fun _ hi hn => h (sidx_lt hi hn)
theorem kidx_none {S : List Ky} {nm : ByteArray} (h : ¬ kidx S nm < S.length) : ∀ i, i < S.length → (kat S i).nm ≠ nm := fun _ hi hn => h (kidx_lt hi hn)
theorem sidx_add {S : List Sc} {nm : ByteArray} (h : ¬ sidx S nm < S.length) : sidx (addSec S nm) nm = S.length :=
  sidx_eq (by simp [addSec]) (by unfold addSec; rw [sat_new]) (fun j hj => by unfold addSec; rw [sat_app hj]; exact sidx_none h j hj)
theorem sidx_opn (S : List Sc) (nm : ByteArray) : sidx (opn S nm) nm < (opn S nm).length := by
  unfold opn
  split
  · assumption
  · rename_i h; rw [sidx_add h]; simp [addSec]
end Go.Proofs.Qxb6603539a.Ds

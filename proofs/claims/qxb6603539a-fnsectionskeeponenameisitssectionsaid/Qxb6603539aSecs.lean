/-
  SECTIONS AS DATA, no Go in sight: a section has a name and keys; a key has a name and values.
-/
import Derived.WalkKit
namespace Go.Proofs.Qxb6603539a.Ds
open Go.RowKit

structure Ky where
  nm : ByteArray
  vs : List ByteArray
structure Sc where
  nm : ByteArray
  ks : List Ky
def ky0 : Ky := ⟨ByteArray.empty, []⟩
def sc0 : Sc := ⟨ByteArray.empty, []⟩
def sat (S : List Sc) (i : Nat) : Sc := S.getD i sc0
def kat (K : List Ky) (j : Nat) : Ky := K.getD j ky0

theorem sat_app {S T : List Sc} {i : Nat} (h : i < S.length) : sat (S ++ T) i = sat S i := by simp [sat, List.getD, List.getElem?_append_left h]
theorem sat_new {S : List Sc} {x : Sc} : sat (S ++ [x]) S.length = x := by simp [sat, List.getD]
theorem sat_set_same {S : List Sc} {i : Nat} {x : Sc} (h : i < S.length) : sat (S.set i x) i = x := by simp [sat, List.getD, h]
theorem sat_set_other {S : List Sc} {i j : Nat} {x : Sc} (h : i ≠ j) : sat (S.set i x) j = sat S j := by simp [sat, List.getD, List.getElem?_set_ne h]
theorem kat_app {S T : List Ky} {i : Nat} (h : i < S.length) : kat (S ++ T) i = kat S i := by simp [kat, List.getD, List.getElem?_append_left h]
theorem kat_new {S : List Ky} {x : Ky} : kat (S ++ [x]) S.length = x := by simp [kat, List.getD]
theorem kat_set_same {S : List Ky} {i : Nat} {x : Ky} (h : i < S.length) : kat (S.set i x) i = x := by simp [kat, List.getD, h]
theorem kat_set_other {S : List Ky} {i j : Nat} {x : Ky} (h : i ≠ j) : kat (S.set i x) j = kat S j := by simp [kat, List.getD, List.getElem?_set_ne h]

def addSec (S : List Sc) (nm : ByteArray) : List Sc := S ++ [⟨nm, []⟩]
def addKey (S : List Sc) (i : Nat) (key : ByteArray) : List Sc := S.set i ⟨(sat S i).nm, (sat S i).ks ++ [⟨key, []⟩]⟩
def addVal (S : List Sc) (i j : Nat) (x : ByteArray) : List Sc := S.set i ⟨(sat S i).nm, (sat S i).ks.set j ⟨(kat (sat S i).ks j).nm, (kat (sat S i).ks j).vs ++ [x]⟩⟩
theorem addKey_len (S : List Sc) (i : Nat) (key : ByteArray) : (addKey S i key).length = S.length := by simp [addKey]
theorem addVal_len (S : List Sc) (i j : Nat) (x : ByteArray) : (addVal S i j x).length = S.length := by simp [addVal]

/-! ### The cells of a row of pairs -/
def pairs (a b : Nat → Value) : Nat → List Value
  | 0 => []
  | n + 1 => pairs a b n ++ [a n, b n]
theorem pairs_len (a b : Nat → Value) : ∀ n, (pairs a b n).length = n * 2
  | 0 => rfl
  | n + 1 => by simp [pairs, pairs_len a b n]; omega
theorem pairs_0 (a b : Nat → Value) : ∀ n i, i < n → (pairs a b n)[i * 2]? = some (a i)
  | 0, i, h => by omega
  | n + 1, i, h => by
    unfold pairs
    by_cases hi : i < n
    · rw [List.getElem?_append_left (by rw [pairs_len]; omega)]; exact pairs_0 a b n i hi
    · obtain rfl : i = n := by omega
      rw [List.getElem?_append_right (by rw [pairs_len]; omega), pairs_len]; simp
theorem pairs_1 (a b : Nat → Value) : ∀ n i, i < n → (pairs a b n)[i * 2 + 1]? = some (b i)
  | 0, i, h => by omega
  | n + 1, i, h => by
    unfold pairs
    by_cases hi : i < n
    · rw [List.getElem?_append_left (by rw [pairs_len]; omega)]; exact pairs_1 a b n i hi
    · obtain rfl : i = n := by omega
      rw [List.getElem?_append_right (by rw [pairs_len]; omega), pairs_len]; simp
theorem pairs_congr {a b a' b' : Nat → Value} : ∀ n, (∀ i, i < n → a i = a' i) → (∀ i, i < n → b i = b' i) → pairs a b n = pairs a' b' n
  | 0, _, _ => rfl
  | n + 1, h, k => by unfold pairs; rw [pairs_congr n (fun i hi => h i (by omega)) (fun i hi => k i (by omega)), h n (by omega), k n (by omega)]
def upd {α : Type} (f : Nat → α) (i : Nat) (v : α) : Nat → α := fun j => if j = i then v else f j
theorem upd_same {α : Type} (f : Nat → α) (i : Nat) (v : α) : upd f i v i = v := by simp [upd]
theorem upd_other {α : Type} (f : Nat → α) {i j : Nat} (v : α) (h : j ≠ i) : upd f i v j = f j := by simp [upd, h]
theorem pairs_set {a b : Nat → Value} {u : Value} : ∀ {n i : Nat}, i < n → (pairs a b n).set (i * 2 + 1) u = pairs a (upd b i u) n
  | 0, i, h => by omega
  | n + 1, i, h => by
    by_cases hi : i < n
    · unfold pairs
      rw [List.set_append_left _ _ (by rw [pairs_len]; omega), pairs_set hi, upd_other b u (by omega)]
    · obtain rfl : i = n := by omega
      unfold pairs
      rw [List.set_append_right _ _ (by rw [pairs_len]; omega), pairs_len, upd_same, pairs_congr (a' := a) (b' := upd b i u) i (fun _ _ => rfl) (fun j hj => (upd_other b u (by omega)).symm)]
      congr 1
      rw [show i * 2 + 1 - i * 2 = 1 by omega]; rfl
end Go.Proofs.Qxb6603539a.Ds

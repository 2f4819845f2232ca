/-
  THE PLAIN FUNCTIONS ON STRINGS behind the laws of this seat: indent, trim, a header's name; no Go in sight.
-/
import Derived.WalkKit
namespace Go.Proofs.Qxb6603539a.Ds
open Go.RowKit

theorem hide {p : Prop} (h : p) : Hid p := h
theorem ret_int {k : IntKind} {a b : Int} (h : a = b) : Ending.returned (.int k a) = .returned (.int k b) := by rw [h]

theorem ret_bool {a b : Bool} (h : a = b) : Ending.returned (.bool a) = .returned (.bool b) := by rw [h]
theorem ret_str {a b : ByteArray} (h : a = b) : Ending.returned (.string a) = .returned (.string b) := by rw [h]

/-- The byte at place i; 0 past the end. -/
def bt (s : ByteArray) (i : Nat) : Int := if h : i < s.size then ((s[i]'h).toNat : Int) else 0
theorem bt_eq (s : ByteArray) (i : Nat) (h : i < s.size) : ((s[i]'h).toNat : Int) = bt s i := by unfold bt; rw [dif_pos h]
theorem bt_bd (s : ByteArray) (i : Nat) : 0 ≤ bt s i ∧ bt s i ≤ 255 := by
  unfold bt
  split
  · rename_i h
    have := (s[i]'h).toNat_lt
    omega
  · omega

/-- The first place from k on, n places at most, at which p fails. -/
def upto (p : Nat → Bool) : Nat → Nat → Nat
  | 0, k => k
  | n + 1, k => if p k = true then upto p n (k + 1) else k
theorem upto_lo (p : Nat → Bool) : ∀ n k, k ≤ upto p n k
  | 0, k => Nat.le_refl _
  | n + 1, k => by
    unfold upto
    split
    · have := upto_lo p n (k + 1); omega
    · exact Nat.le_refl _
theorem upto_hi (p : Nat → Bool) : ∀ n k, upto p n k ≤ k + n
  | 0, k => Nat.le_refl _
  | n + 1, k => by
    unfold upto
    split
    · have := upto_hi p n (k + 1); omega
    · omega
theorem upto_in (p : Nat → Bool) : ∀ n k i, k ≤ i → i < upto p n k → p i = true
  | 0, k, i, h1, h2 => by unfold upto at h2; omega
  | n + 1, k, i, h1, h2 => by
    unfold upto at h2
    split at h2
    · rename_i h
      by_cases e : i = k
      · subst e; exact h
      · exact upto_in p n (k + 1) i (by omega) h2
    · omega
theorem upto_end (p : Nat → Bool) : ∀ n k, upto p n k < k + n → p (upto p n k) = false
  | 0, k, h => by unfold upto at h; omega
  | n + 1, k, h => by
    unfold upto at h ⊢
    split
    · rename_i hp
      rw [if_pos hp] at h
      exact upto_end p n (k + 1) (by omega)
    · rename_i hp
      simpa using hp

def isBl (c : Int) : Bool := decide (c = 32 ∨ c = 9)
theorem isBl_yes {c : Int} (h : isBl c = true) : c = 32 ∨ c = 9 := by simpa [isBl] using h
theorem isBl_no {c : Int} (h : isBl c = false) : c ≠ 32 ∧ c ≠ 9 := by
  have : ¬ (c = 32 ∨ c = 9) := by simpa [isBl] using h
  omega

/-- How many blanks open the text. -/
def ind (s : ByteArray) : Nat := upto (fun i => isBl (bt s i)) s.size 0
theorem ind_le (s : ByteArray) : ind s ≤ s.size := by have := upto_hi (fun i => isBl (bt s i)) s.size 0; unfold ind; omega
theorem ind_in (s : ByteArray) (i : Nat) (h : i < ind s) : isBl (bt s i) = true := upto_in _ s.size 0 i (Nat.zero_le _) h
theorem ind_end (s : ByteArray) (h : ind s < s.size) : isBl (bt s (ind s)) = false := upto_end (fun i => isBl (bt s i)) s.size 0 (by unfold ind at h; omega)

/-- Where the text ends without the blanks at its end, from 'lo' on at least. -/
def endOf (s : ByteArray) (lo : Nat) : Nat → Nat
  | 0 => 0
  | k + 1 => if lo < k + 1 ∧ isBl (bt s k) = true then endOf s lo k else k + 1
theorem endOf_le (s : ByteArray) (lo : Nat) : ∀ k, endOf s lo k ≤ k
  | 0 => Nat.le_refl _
  | k + 1 => by
    unfold endOf
    split
    · have := endOf_le s lo k; omega
    · exact Nat.le_refl _
theorem endOf_lo (s : ByteArray) (lo : Nat) : ∀ k, lo ≤ k → lo ≤ endOf s lo k
  | 0, h => by unfold endOf; omega
  | k + 1, h => by
    unfold endOf
    split
    · exact endOf_lo s lo k (by omega)
    · exact h
theorem endOf_step {s : ByteArray} {lo k : Nat} (h1 : lo < k) (h2 : isBl (bt s (k - 1)) = true) : endOf s lo (k - 1) = endOf s lo k := by
  obtain ⟨j, rfl⟩ : ∃ j, k = j + 1 := ⟨k - 1, by omega⟩
  simp only [Nat.add_sub_cancel] at h2 ⊢
  conv => rhs; unfold endOf
  rw [if_pos ⟨h1, h2⟩]
theorem endOf_stop {s : ByteArray} {lo k : Nat} (h : ¬ (lo < k ∧ isBl (bt s (k - 1)) = true)) : endOf s lo k = k := by
  cases k with
  | zero => rfl
  | succ j =>
    simp only [Nat.add_sub_cancel] at h
    unfold endOf
    rw [if_neg h]

/-- The text without the blanks around it. -/
def trm (s : ByteArray) : ByteArray := s.extract (ind s) (endOf s (ind s) s.size)

/-- The first place of the byte c; the text's length where there is none. -/
def fst (s : ByteArray) (c : Int) : Nat := upto (fun i => decide (bt s i ≠ c)) s.size 0
theorem fst_le (s : ByteArray) (c : Int) : fst s c ≤ s.size := by have := upto_hi (fun i => decide (bt s i ≠ c)) s.size 0; unfold fst; omega
theorem fst_in (s : ByteArray) (c : Int) (i : Nat) (h : i < fst s c) : bt s i ≠ c := by
  have := upto_in (fun i => decide (bt s i ≠ c)) s.size 0 i (Nat.zero_le _) h
  simpa using this
theorem fst_end (s : ByteArray) (c : Int) (h : fst s c < s.size) : bt s (fst s c) = c := by
  have := upto_end (fun i => decide (bt s i ≠ c)) s.size 0 (by unfold fst at h; omega)
  have h2 : ¬ bt s (upto (fun i => decide (bt s i ≠ c)) s.size 0) ≠ c := of_decide_eq_false this
  exact Decidable.not_not.1 h2

/-- What follows the ']' at e, its blanks struck. -/
def aft (s : ByteArray) (e : Nat) : ByteArray := (s.extract (e + 1) s.size).extract (ind (s.extract (e + 1) s.size)) (s.size - (e + 1))

/-- A header's name, read behind its '['. -/
def hnm (s : ByteArray) : ByteArray :=
  if fst s 93 < s.size then
    if 0 < (aft s (fst s 93)).size ∧ bt (aft s (fst s 93)) 0 ≠ 59 ∧ bt (aft s (fst s 93)) 0 ≠ 35 then ByteArray.empty
    else trm (s.extract 0 (fst s 93))
  else ByteArray.empty
theorem hnm_none {s : ByteArray} (h : ¬ fst s 93 < s.size) : hnm s = ByteArray.empty := by unfold hnm; rw [if_neg h]
theorem hnm_bad {s : ByteArray} (h : fst s 93 < s.size) (h1 : 0 < (aft s (fst s 93)).size) (h2 : bt (aft s (fst s 93)) 0 ≠ 59) (h3 : bt (aft s (fst s 93)) 0 ≠ 35) : hnm s = ByteArray.empty := by unfold hnm; rw [if_pos h, if_pos ⟨h1, h2, h3⟩]
theorem hnm_good {s : ByteArray} (h : fst s 93 < s.size) (h1 : ¬ (0 < (aft s (fst s 93)).size ∧ bt (aft s (fst s 93)) 0 ≠ 59 ∧ bt (aft s (fst s 93)) 0 ≠ 35)) : hnm s = trm (s.extract 0 (fst s 93)) := by unfold hnm; rw [if_pos h, if_neg h1]

/-- A header line's name. -/
def nameOf (s : ByteArray) : ByteArray := if ind s < s.size then hnm (s.extract (ind s + 1) s.size) else ByteArray.empty
theorem nameOf_in {s : ByteArray} (h : ind s < s.size) : nameOf s = hnm (s.extract (ind s + 1) s.size) := by unfold nameOf; rw [if_pos h]
theorem nameOf_out {s : ByteArray} (h : ¬ ind s < s.size) : nameOf s = ByteArray.empty := by unfold nameOf; rw [if_neg h]

#print axioms endOf_step
#print axioms fst_end
end Go.Proofs.Qxb6603539a.Ds

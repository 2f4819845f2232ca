/-
  THE PLAIN LAW behind 'FnBracketEndMatchesByteScan': a scanner over a list of bytes; no Go in sight.
-/
import Derived.WalkKit
namespace Go.Proofs.Qxb6602558a.Br
open Go.RowKit

/-- The scanner that reads one byte at a time: from place i on, in the state (d, s, e). -/
def scan : List Int → Nat → Int → Bool → Bool → Int × Int × Bool × Bool
  | [], _, d, s, e => (-1, d, s, e)
  | c :: cs, i, d, s, e =>
    if s = true then
      if e = true then scan cs (i + 1) d true false
      else if c = 92 then scan cs (i + 1) d true true
      else if c = 34 then scan cs (i + 1) d false false
      else scan cs (i + 1) d true false
    else if c = 34 then scan cs (i + 1) d true e
    else if c = 123 ∨ c = 91 then scan cs (i + 1) (wrap64 (d + 1)) false e
    else if c = 125 ∨ c = 93 then
      if wrap64 (d - 1) = 0 then (((i + 1 : Nat) : Int), wrap64 (d - 1), false, e)
      else scan cs (i + 1) (wrap64 (d - 1)) false e
    else scan cs (i + 1) d false e

theorem drop_at {xs : List Int} {k : Nat} (h : k < xs.length) : xs.drop k = xs.getD k 0 :: xs.drop (k + 1) := by
  rw [List.drop_eq_getElem_cons h]; simp [List.getD, h]

section
variable {xs : List Int} {k : Nat} {d : Int}
theorem in_esc (h : k < xs.length) : scan (xs.drop k) k d true true = scan (xs.drop (k + 1)) (k + 1) d true false := by
  rw [drop_at h, scan]; simp
theorem in_bs (h : k < xs.length) (c : xs.getD k 0 = 92) : scan (xs.drop k) k d true false = scan (xs.drop (k + 1)) (k + 1) d true true := by
  rw [drop_at h, scan, c]; simp
theorem in_q (h : k < xs.length) (c : xs.getD k 0 = 34) : scan (xs.drop k) k d true false = scan (xs.drop (k + 1)) (k + 1) d false false := by
  rw [drop_at h, scan, c]; simp
theorem in_other (h : k < xs.length) (c : xs.getD k 0 ≠ 92) (c' : xs.getD k 0 ≠ 34) : scan (xs.drop k) k d true false = scan (xs.drop (k + 1)) (k + 1) d true false := by
  rw [drop_at h, scan, if_pos rfl, if_neg (by simp), if_neg c, if_neg c']
theorem out_q {e : Bool} (h : k < xs.length) (c : xs.getD k 0 = 34) : scan (xs.drop k) k d false e = scan (xs.drop (k + 1)) (k + 1) d true e := by
  rw [drop_at h, scan, c]; simp
theorem out_open {e : Bool} (h : k < xs.length) (c : xs.getD k 0 = 123 ∨ xs.getD k 0 = 91) : scan (xs.drop k) k d false e = scan (xs.drop (k + 1)) (k + 1) (wrap64 (d + 1)) false e := by
  rw [drop_at h, scan, if_neg (by simp), if_neg (by omega), if_pos c]
theorem out_close {e : Bool} (h : k < xs.length) (c : xs.getD k 0 = 125 ∨ xs.getD k 0 = 93) (hd : wrap64 (d - 1) ≠ 0) : scan (xs.drop k) k d false e = scan (xs.drop (k + 1)) (k + 1) (wrap64 (d - 1)) false e := by
  rw [drop_at h, scan, if_neg (by simp), if_neg (by omega), if_neg (by omega), if_pos c, if_neg hd]
theorem out_end {e : Bool} (h : k < xs.length) (c : xs.getD k 0 = 125 ∨ xs.getD k 0 = 93) (hd : wrap64 (d - 1) = 0) : scan (xs.drop k) k d false e = (((k + 1 : Nat) : Int), wrap64 (d - 1), false, e) := by
  rw [drop_at h, scan, if_neg (by simp), if_neg (by omega), if_neg (by omega), if_pos c, if_pos hd]
theorem out_other {e : Bool} (h : k < xs.length) (c1 : xs.getD k 0 ≠ 34) (c2 : xs.getD k 0 ≠ 123) (c3 : xs.getD k 0 ≠ 91) (c4 : xs.getD k 0 ≠ 125) (c5 : xs.getD k 0 ≠ 93) : scan (xs.drop k) k d false e = scan (xs.drop (k + 1)) (k + 1) d false e := by
  rw [drop_at h, scan, if_neg (by simp), if_neg c1, if_neg (by omega), if_neg (by omega)]
theorem at_end {s e : Bool} (h : xs.length ≤ k) : scan (xs.drop k) k d s e = (-1, d, s, e) := by
  rw [List.drop_eq_nil_of_le h, scan]
end

/-! ### A stretch of a string without a quote -/
def esc : Bool → List Int → Bool
  | e, [] => e
  | e, c :: cs => esc (if e = true then false else decide (c = 92)) cs

theorem scan_stretch (zs : List Int) (d : Int) : ∀ (ys : List Int) (i : Nat) (e : Bool), (∀ c ∈ ys, c ≠ 34) → scan (ys ++ zs) i d true e = scan zs (i + ys.length) d true (esc e ys)
  | [], i, e, _ => by simp [esc]
  | c :: cs, i, e, h => by
    have hc : c ≠ 34 := h c (by simp)
    have ih := fun e => scan_stretch zs d cs (i + 1) e (fun x hx => h x (by simp [hx]))
    have hl : i + (c :: cs).length = i + 1 + cs.length := by simp; omega
    rw [List.cons_append, scan, if_pos rfl, hl]
    cases e with
    | true => simp [esc, ih]
    | false =>
      by_cases h9 : c = 92
      · simp [esc, ih, h9]
      · simp [esc, ih, h9, hc]

theorem esc_snoc (c : Int) : ∀ (ys : List Int) (e : Bool), esc e (ys ++ [c]) = if esc e ys = true then false else decide (c = 92)
  | [], e => rfl
  | y :: ys, e => by rw [List.cons_append, esc, esc_snoc c ys]; rfl

/-- How many backslashes the list ends with. -/
def trail (ys : List Int) : Nat := (ys.reverse.takeWhile fun c => decide (c = 92)).length
theorem trail_snoc (ys : List Int) (c : Int) : trail (ys ++ [c]) = if c = 92 then trail ys + 1 else 0 := by
  unfold trail
  rw [List.reverse_append]
  by_cases h : c = 92 <;> simp [h]
theorem trail_nil : trail [] = 0 := rfl
theorem esc_trail (ys : List Int) : esc false ys = decide (trail ys % 2 = 1) := by
  generalize hn : ys.length = n
  induction n generalizing ys with
  | zero => have : ys = [] := List.eq_nil_of_length_eq_zero hn; subst this; rfl
  | succ n ih =>
    obtain ⟨zs, c, rfl⟩ : ∃ zs c, ys = zs ++ [c] := by
      have hne : ys ≠ [] := by intro h; subst h; simp at hn
      exact ⟨ys.dropLast, ys.getLast hne, (List.dropLast_concat_getLast hne).symm⟩
    have := ih zs (by simpa using hn)
    rw [esc_snoc, trail_snoc, this]
    by_cases h9 : c = 92
    · simp [h9]; by_cases ho : trail zs % 2 = 1
      · simp [ho]; omega
      · simp [ho]; omega
    · simp [h9]

/-- No quote follows: the list ends inside the string. -/
theorem rest_none {xs : List Int} {i : Nat} (h : ∀ c ∈ xs.drop i, c ≠ 34) (d : Int) : scan (xs.drop i) i d true false = (-1, d, true, decide (trail (xs.drop i) % 2 = 1)) := by
  have := scan_stretch [] d (xs.drop i) i false h
  rw [List.append_nil] at this
  rw [this, scan, esc_trail]

theorem drop_split {xs : List Int} {i q : Nat} (hq : i + q < xs.length) : xs.drop i = (xs.drop i).take q ++ xs.getD (i + q) 0 :: xs.drop (i + q + 1) := by
  have h1 : (xs.drop i).drop q = xs.getD (i + q) 0 :: xs.drop (i + q + 1) := by
    rw [List.drop_drop, drop_at hq]
  rw [← h1, List.take_append_drop]

/-- A quote q places on, none before it: it closes the string where an even number of backslashes stands before it. -/
theorem rest_even {xs : List Int} {i q : Nat} (hq : i + q < xs.length) (hc : xs.getD (i + q) 0 = 34) (h : ∀ c ∈ (xs.drop i).take q, c ≠ 34) (ht : trail ((xs.drop i).take q) % 2 = 0) (d : Int) :
    scan (xs.drop i) i d true false = scan (xs.drop (i + q + 1)) (i + q + 1) d false false := by
  rw [drop_split hq, scan_stretch _ d _ i false h, esc_trail]
  have hl : ((xs.drop i).take q).length = q := by simp; omega
  rw [hl, hc, scan, if_pos rfl, if_neg (by simp; omega), if_neg (by omega), if_pos rfl]
theorem rest_odd {xs : List Int} {i q : Nat} (hq : i + q < xs.length) (hc : xs.getD (i + q) 0 = 34) (h : ∀ c ∈ (xs.drop i).take q, c ≠ 34) (ht : trail ((xs.drop i).take q) % 2 ≠ 0) (d : Int) :
    scan (xs.drop i) i d true false = scan (xs.drop (i + q + 1)) (i + q + 1) d true false := by
  rw [drop_split hq, scan_stretch _ d _ i false h, esc_trail]
  have hl : ((xs.drop i).take q).length = q := by simp; omega
  rw [hl, hc, scan, if_pos rfl, if_pos (by simp; omega)]

#print axioms rest_even
end Go.Proofs.Qxb6602558a.Br

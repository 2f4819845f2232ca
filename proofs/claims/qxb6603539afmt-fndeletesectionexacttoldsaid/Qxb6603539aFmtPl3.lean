/-
  The plain laws behind zzDeleteModel: a line is gone exactly where the reader's state says so; the maximal runs of gone lines are DeleteSection's runs; what is kept is what is left.
-/
import Derived.Test.Qxb6603539aFmtPl
namespace Go.Proofs.Qxb6603539aFmt.Ds

/-- The model's state when i lines have been read: the name, and whether the part is open. -/
def mst (ls : List Ln) : Nat → ByteArray × Bool
  | 0 => (ByteArray.empty, true)
  | i + 1 => if (at' ls i).k = 2 then (nameOf (at' ls i).t, true) else if (at' ls i).k = 5 then ((mst ls i).1, false) else mst ls i
theorem mst_head {ls : List Ln} {i : Nat} (h : (at' ls i).k = 2) : mst ls (i + 1) = (nameOf (at' ls i).t, true) := if_pos h
theorem mst_bad {ls : List Ln} {i : Nat} (h : (at' ls i).k = 5) : mst ls (i + 1) = ((mst ls i).1, false) := (if_neg (by omega)).trans (if_pos h)
theorem mst_on {ls : List Ln} {i : Nat} (h : (at' ls i).k ≠ 2) (h' : (at' ls i).k ≠ 5) : mst ls (i + 1) = mst ls i := by
  conv => lhs; unfold mst
  rw [if_neg h, if_neg h']
theorem mst_stp (ls : List Ln) : ∀ i, (mst ls i).2 = (stp ls i).2.2 ∧ ((mst ls i).2 = true → (mst ls i).1 = (stp ls i).1)
  | 0 => ⟨rfl, fun _ => rfl⟩
  | i + 1 => by
    have ih := mst_stp ls i
    by_cases h2 : (at' ls i).k = 2
    · rw [mst_head h2, stp_head h2]; exact ⟨rfl, fun _ => rfl⟩
    · by_cases h5 : (at' ls i).k = 5
      · rw [mst_bad h5, stp_bad h5]; exact ⟨rfl, fun h => by cases h⟩
      · rw [mst_on h2 h5, stp_on h2 h5]; exact ih

/-- Is line i gone? -/
def gB (ls : List Ln) (sec : ByteArray) (i : Nat) : Bool := (mst ls (i + 1)).2 && decide ((mst ls (i + 1)).1 = sec)
theorem gB_iff (ls : List Ln) (sec : ByteArray) (i : Nat) : gB ls sec i = true ↔ goneAt ls sec i := by
  obtain ⟨h1, h2⟩ := mst_stp ls (i + 1)
  unfold gB goneAt
  rw [Bool.and_eq_true, decide_eq_true_eq]
  constructor
  · rintro ⟨a, b⟩; exact ⟨by rw [← h1]; exact a, by rw [← h2 a]; exact b⟩
  · rintro ⟨a, b⟩
    have a' : (mst ls (i + 1)).2 = true := by rw [h1]; exact a
    exact ⟨a', by rw [h2 a']; exact b⟩

/-- A maximal run of gone lines is one of the runs. -/
theorem run_mem {n f t : Nat} {R : List (Nat × Nat)} {g : Nat → Bool} (hR : RS n R) (hg : ∀ j, j < n → (g j = true ↔ inR R j)) (h1 : f < t) (h2 : t ≤ n) (hin : ∀ j, f ≤ j → j < t → g j = true)
    (hlo : f = 0 ∨ g (f - 1) = false) (hhi : t = n ∨ g t = false) : (f, t) ∈ R := by
  obtain ⟨r, hr, a1, a2⟩ := (hg f (by omega)).1 (hin f (Nat.le_refl _) h1)
  obtain ⟨b1, b2⟩ := hR.1 r hr
  have e1 : r.1 = f := by
    by_cases h : r.1 < f
    · exfalso
      have := (hg (f - 1) (by omega)).2 ⟨r, hr, by omega, by omega⟩
      rcases hlo with h0 | h0
      · omega
      · rw [h0] at this; cases this
    · omega
  have e2 : r.2 = t := by
    by_cases h : r.2 < t
    · exfalso
      obtain ⟨r', hr', c1, c2⟩ := (hg r.2 (by omega)).1 (hin r.2 (by omega) h)
      rcases List.pairwise_iff_getElem.1 hR.2 with hp
      obtain ⟨i, hi, ei⟩ := List.getElem_of_mem hr
      obtain ⟨j, hj, ej⟩ := List.getElem_of_mem hr'
      rcases Nat.lt_trichotomy i j with hij | hij | hij
      · have := hp i j hi hj hij; rw [ei, ej] at this; omega
      · subst hij; rw [ei] at ej; rw [← ej] at c2; omega
      · have := hp j i hj hi hij; rw [ei, ej] at this; omega
    · by_cases h' : t < r.2
      · exfalso
        have := (hg t (by omega)).2 ⟨r, hr, by omega, h'⟩
        rcases hhi with h0 | h0
        · omega
        · rw [h0] at this; cases this
      · omega
  rw [← e1, ← e2]; exact hr

/-- Two runs that share a place are one. -/
theorem run_same {n j : Nat} {R : List (Nat × Nat)} (hR : RS n R) {r r' : Nat × Nat} (hr : r ∈ R) (hr' : r' ∈ R) (h1 : r.1 ≤ j) (h2 : j < r.2) (h3 : r'.1 ≤ j) (h4 : j < r'.2) : r = r' := by
  have hp := List.pairwise_iff_getElem.1 hR.2
  obtain ⟨i, hi, ei⟩ := List.getElem_of_mem hr
  obtain ⟨k, hk, ek⟩ := List.getElem_of_mem hr'
  rcases Nat.lt_trichotomy i k with hij | hij | hij
  · have := hp i k hi hk hij; rw [ei, ek] at this; omega
  · subst hij; rw [← ei, ← ek]
  · have := hp k i hk hi hij; rw [ei, ek] at this; omega

/-- The lines that are kept, of k lines from lo on. -/
def kept (ls : List Ln) (g : Nat → Bool) : Nat → Nat → List Ln
  | _, 0 => []
  | lo, k + 1 => (if g lo = true then [] else [at' ls lo]) ++ kept ls g (lo + 1) k
theorem kept_add (ls : List Ln) (g : Nat → Bool) : ∀ a b lo, kept ls g lo (a + b) = kept ls g lo a ++ kept ls g (lo + a) b
  | 0, b, lo => by simp [kept]
  | a + 1, b, lo => by
    have e : a + 1 + b = (a + b) + 1 := by omega
    have e2 : lo + (a + 1) = lo + 1 + a := by omega
    rw [e, e2]
    show (if g lo = true then [] else [at' ls lo]) ++ kept ls g (lo + 1) (a + b) = ((if g lo = true then [] else [at' ls lo]) ++ kept ls g (lo + 1) a) ++ kept ls g (lo + 1 + a) b
    rw [kept_add ls g a b (lo + 1), List.append_assoc]
theorem kept_none {ls : List Ln} {g : Nat → Bool} : ∀ {k lo}, (∀ j, lo ≤ j → j < lo + k → g j = true) → kept ls g lo k = []
  | 0, _, _ => rfl
  | k + 1, lo, h => by
    unfold kept
    rw [if_pos (h lo (Nat.le_refl _) (by omega)), kept_none (fun j h1 h2 => h j (by omega) (by omega))]; rfl
theorem kept_all {ls : List Ln} {g : Nat → Bool} : ∀ {k lo}, lo + k ≤ ls.length → (∀ j, lo ≤ j → j < lo + k → g j = false) → kept ls g lo k = (ls.drop lo).take k
  | 0, _, _, _ => by simp [kept]
  | k + 1, lo, hl, h => by
    unfold kept
    rw [if_neg (by rw [h lo (Nat.le_refl _) (by omega)]; simp), kept_all (by omega) (fun j h1 h2 => h j (by omega) (by omega))]
    have hlt : lo < ls.length := by omega
    rw [List.drop_eq_getElem_cons hlt, List.take_succ_cons]
    simp [at', List.getD, hlt]
theorem kept_snoc (ls : List Ln) (g : Nat → Bool) (j : Nat) : kept ls g 0 (j + 1) = kept ls g 0 j ++ (if g j = true then [] else [at' ls j]) := by
  rw [kept_add, Nat.zero_add]; simp [kept]

theorem rem_kept {ls : List Ln} {g : Nat → Bool} : ∀ {lo : Nat} {R : List (Nat × Nat)}, ROk ls.length lo R → (∀ j, lo ≤ j → j < ls.length → (g j = true ↔ inR R j)) → rem ls lo R = kept ls g lo (ls.length - lo)
  | lo, [], h, hg => by
    have hle : lo ≤ ls.length := h
    rw [kept_all (by omega) (fun j h1 h2 => by
      rcases Bool.eq_false_or_eq_true (g j) with e | e
      · obtain ⟨r, hr, _⟩ := (hg j h1 (by omega)).1 e; cases hr
      · exact e)]
    unfold rem
    rw [List.take_of_length_le (by simp)]
  | lo, r :: R, h, hg => by
    obtain ⟨h1, h2, h3⟩ := h
    have hge := h3.ge
    have hle := h3.le
    have e : ls.length - lo = (r.1 - lo) + ((r.2 - r.1) + (ls.length - r.2)) := by omega
    rw [e, kept_add, kept_add]
    have e1 : lo + (r.1 - lo) = r.1 := by omega
    have e2 : r.1 + (r.2 - r.1) = r.2 := by omega
    rw [e1, e2, kept_all (by omega) (fun j a1 a2 => by
      rcases Bool.eq_false_or_eq_true (g j) with e | e
      · exfalso
        obtain ⟨x, hx, b1, b2⟩ := (hg j a1 (by omega)).1 e
        rcases List.mem_cons.1 hx with rfl | hx
        · omega
        · have := hge x hx; omega
      · exact e), kept_none (fun j a1 a2 => (hg j (by omega) (by omega)).2 ⟨r, by simp, a1, by omega⟩), List.nil_append]
    unfold rem
    congr 1
    refine rem_kept h3 (fun j a1 a2 => ?_)
    rw [hg j (by omega) a2]
    constructor
    · rintro ⟨x, hx, b1, b2⟩
      rcases List.mem_cons.1 hx with rfl | hx
      · omega
      · exact ⟨x, hx, b1, b2⟩
    · rintro ⟨x, hx, b⟩; exact ⟨x, List.mem_cons_of_mem _ hx, b⟩
#print axioms rem_kept
end Go.Proofs.Qxb6603539aFmt.Ds

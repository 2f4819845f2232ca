/-
  Which lines a deletion takes, and the runs that the parts make; no Go in sight.
-/
import Derived.Test.Qxb6603539aFmtRuns
namespace Go.Proofs.Qxb6603539aFmt.Ds
open Go.RowKit

/-- One part more: the runs behind it. -/
def stepR (sec : ByteArray) (R : List (Nat × Nat)) (p : Part) : List (Nat × Nat) :=
  if p.nm = sec then
    if R ≠ [] ∧ ((rat R (R.length - 1)).2 : Int) = p.h then R.dropLast ++ [((rat R (R.length - 1)).1, p.e.toNat)] else R ++ [(p.h.toNat, p.e.toNat)]
  else R
def foldR (sec : ByteArray) (ps : List Part) : List (Nat × Nat) := ps.foldl (stepR sec) []
theorem foldR_snoc (sec : ByteArray) (ps : List Part) (p : Part) : foldR sec (ps ++ [p]) = stepR sec (foldR sec ps) p := by simp [foldR, List.foldl_append]
theorem stepR_no {sec : ByteArray} {R : List (Nat × Nat)} {p : Part} (h : ¬ p.nm = sec) : stepR sec R p = R := by unfold stepR; rw [if_neg h]
theorem stepR_join {sec : ByteArray} {R : List (Nat × Nat)} {p : Part} (h : p.nm = sec) (h1 : R ≠ []) (h2 : ((rat R (R.length - 1)).2 : Int) = p.h) : stepR sec R p = R.dropLast ++ [((rat R (R.length - 1)).1, p.e.toNat)] := by unfold stepR; rw [if_pos h, if_pos ⟨h1, h2⟩]
theorem stepR_new {sec : ByteArray} {R : List (Nat × Nat)} {p : Part} (h : p.nm = sec) (h1 : ¬ (R ≠ [] ∧ ((rat R (R.length - 1)).2 : Int) = p.h)) : stepR sec R p = R ++ [(p.h.toNat, p.e.toNat)] := by unfold stepR; rw [if_pos h, if_neg h1]
theorem stepR_length (sec : ByteArray) (R : List (Nat × Nat)) (p : Part) : (stepR sec R p).length ≤ R.length + 1 := by
  unfold stepR
  split
  · split
    · rename_i h
      have : R.length ≠ 0 := fun e => h.1 (List.eq_nil_of_length_eq_zero e)
      simp
    · simp
  · omega
theorem foldR_length (sec : ByteArray) (ps : List Part) : (foldR sec ps).length ≤ ps.length := by
  have : ∀ (ps : List Part) (R : List (Nat × Nat)), (ps.foldl (stepR sec) R).length ≤ R.length + ps.length := by
    intro ps
    induction ps with
    | nil => intro R; simp
    | cons p ps ih =>
      intro R
      have h1 := ih (stepR sec R p)
      have h2 := stepR_length sec R p
      simp only [List.foldl_cons, List.length_cons]
      omega
  simpa [foldR] using this ps []

theorem prts_length (ls : List Ln) : ∀ i, (prts ls i).length ≤ i
  | 0 => by simp [prts]
  | i + 1 => by
    have := prts_length ls i
    by_cases h : ((at' ls i).k = 2 ∨ (at' ls i).k = 5) ∧ (stp ls i).2.2 = true
    · rw [prts_yield h.1 h.2]; simp; omega
    · rw [prts_on h]; omega
theorem allParts_length (ls : List Ln) : (allParts ls).length ≤ ls.length + 1 := by
  have := prts_length ls ls.length
  unfold allParts
  split <;> simp <;> omega

/-- The header of a part with a name is a line that was read. -/
theorem stp_h (ls : List Ln) : ∀ i, (stp ls i).1 ≠ ByteArray.empty → ∃ a : Nat, (stp ls i).2.1 = a ∧ a < i
  | 0, h => absurd rfl h
  | i + 1, h => by
    by_cases h2 : (at' ls i).k = 2
    · rw [stp_head h2]; exact ⟨i, rfl, by omega⟩
    · by_cases h5 : (at' ls i).k = 5
      · rw [stp_bad h5] at h; exact absurd rfl h
      · rw [stp_on h2 h5] at h ⊢
        obtain ⟨a, ha, hl⟩ := stp_h ls i h
        exact ⟨a, ha, by omega⟩
theorem stp_lo (ls : List Ln) : ∀ i, -1 ≤ (stp ls i).2.1 ∧ (stp ls i).2.1 < i
  | 0 => by simp [stp]
  | i + 1 => by
    have := stp_lo ls i
    by_cases h2 : (at' ls i).k = 2
    · rw [stp_head h2]; simp only; omega
    · by_cases h5 : (at' ls i).k = 5
      · rw [stp_bad h5]; simp only; omega
      · rw [stp_on h2 h5]; omega

/-- A part with a name: its places. -/
def PartOk (n : Nat) (p : Part) : Prop := -1 ≤ p.h ∧ p.h < p.e + 1 ∧ 0 ≤ p.e ∧ p.e ≤ n ∧ (p.nm ≠ ByteArray.empty → ∃ a : Nat, p.h = a ∧ (a : Int) < p.e)
theorem prts_ok (ls : List Ln) : ∀ i, ∀ p ∈ prts ls i, PartOk i p
  | 0, p, h => by simp [prts] at h
  | i + 1, p, h => by
    have up : ∀ p ∈ prts ls i, PartOk (i + 1) p := fun p hp => by
      obtain ⟨h1, h2, h3, h4, h5⟩ := prts_ok ls i p hp
      exact ⟨h1, h2, h3, by omega, h5⟩
    by_cases hy : ((at' ls i).k = 2 ∨ (at' ls i).k = 5) ∧ (stp ls i).2.2 = true
    · rw [prts_yield hy.1 hy.2, List.mem_append] at h
      rcases h with h | h
      · exact up p h
      · simp only [List.mem_singleton] at h
        subst h
        have hlo := stp_lo ls i
        refine ⟨hlo.1, by simp only; omega, by simp only; omega, by simp only; omega, fun hn => ?_⟩
        obtain ⟨a, ha, hl⟩ := stp_h ls i hn
        exact ⟨a, ha, by simp only; omega⟩
    · rw [prts_on hy] at h; exact up p h
theorem allParts_ok (ls : List Ln) : ∀ p ∈ allParts ls, PartOk ls.length p := by
  intro p h
  unfold allParts at h
  rw [List.mem_append] at h
  rcases h with h | h
  · exact prts_ok ls ls.length p h
  · split at h
    · simp only [List.mem_singleton] at h
      subst h
      have hlo := stp_lo ls ls.length
      refine ⟨hlo.1, by simp only; omega, by simp only; omega, by simp only; omega, fun hn => ?_⟩
      obtain ⟨a, ha, hl⟩ := stp_h ls ls.length hn
      exact ⟨a, ha, by simp only; omega⟩
    · simp at h

/-! ### The lines that go -/
def goneAt (ls : List Ln) (sec : ByteArray) (j : Nat) : Prop := (stp ls (j + 1)).2.2 = true ∧ (stp ls (j + 1)).1 = sec
def inR (R : List (Nat × Nat)) (j : Nat) : Prop := ∃ r ∈ R, r.1 ≤ j ∧ j < r.2

/-- Runs in order, none empty, a gap between every two. -/
def RS (n : Nat) (R : List (Nat × Nat)) : Prop := (∀ r ∈ R, r.1 < r.2 ∧ r.2 ≤ n) ∧ R.Pairwise (fun a b => a.2 < b.1)

theorem last_eq {R : List (Nat × Nat)} (h : R ≠ []) : rat R (R.length - 1) = R.getLast h := by
  have : R.length ≠ 0 := fun e => h (List.eq_nil_of_length_eq_zero e)
  rw [List.getLast_eq_getElem]
  simp [rat, List.getD, show R.length - 1 < R.length by omega]
theorem last_mem {R : List (Nat × Nat)} (h : R ≠ []) : rat R (R.length - 1) ∈ R := by rw [last_eq h]; exact List.getLast_mem h
theorem last_split {R : List (Nat × Nat)} (h : R ≠ []) : R = R.dropLast ++ [rat R (R.length - 1)] := by
  rw [last_eq h, List.dropLast_concat_getLast]

/-- One part more, told by what it covers. -/
theorem step_RS {sec : ByteArray} {R : List (Nat × Nat)} {nm : ByteArray} {h a i : Nat} (hR : RS h R) (hn : nm = sec) (ha : a = h) (hi : h < i) :
    RS i (stepR sec R ⟨nm, (a : Int), (i : Int)⟩) ∧ ∀ j, inR (stepR sec R ⟨nm, (a : Int), (i : Int)⟩) j ↔ inR R j ∨ (h ≤ j ∧ j < i) := by
  subst ha
  by_cases hj : R ≠ [] ∧ ((rat R (R.length - 1)).2 : Int) = (a : Int)
  · rw [stepR_join (p := ⟨nm, (a : Int), (i : Int)⟩) hn hj.1 hj.2]
    have hs := last_split hj.1
    obtain ⟨R0, r, hR0⟩ : ∃ R0 r, R.dropLast = R0 ∧ rat R (R.length - 1) = r := ⟨_, _, rfl, rfl⟩
    obtain ⟨rfl, hr⟩ := hR0
    rw [hr] at hs hj ⊢
    have h2 : r.2 = a := by have := hj.2; omega
    rw [hs] at hR
    obtain ⟨hA, hP⟩ := hR
    rw [List.pairwise_append] at hP
    have hrA := hA r (by simp)
    refine ⟨⟨?_, ?_⟩, ?_⟩
    · intro x hx
      simp only [List.mem_append, List.mem_singleton] at hx
      rcases hx with hx | rfl
      · have := hA x (by simp [hx]); omega
      · simp; omega
    · rw [List.pairwise_append]
      refine ⟨hP.1, List.pairwise_singleton _ _, fun x hx y hy => ?_⟩
      simp only [List.mem_singleton] at hy
      subst hy
      exact hP.2.2 x hx r (by simp)
    · intro j
      conv => rhs; rw [hs]
      unfold inR
      simp only [List.mem_append, List.mem_singleton]
      constructor
      · rintro ⟨x, hx | rfl, h3, h4⟩
        · exact .inl ⟨x, .inl hx, h3, h4⟩
        · simp at h3 h4
          by_cases hja : j < a
          · exact .inl ⟨r, .inr rfl, h3, by omega⟩
          · exact .inr ⟨by omega, h4⟩
      · rintro (⟨x, hx | rfl, h3, h4⟩ | ⟨h3, h4⟩)
        · exact ⟨x, .inl hx, h3, h4⟩
        · exact ⟨_, .inr rfl, h3, by simp; omega⟩
        · exact ⟨_, .inr rfl, by simp; omega, by simp; omega⟩
  · rw [stepR_new (p := ⟨nm, (a : Int), (i : Int)⟩) hn hj]
    obtain ⟨hA, hP⟩ := hR
    have hlast : ∀ r ∈ R, r.2 < a := by
      intro r hr
      have h1 := hA r hr
      by_cases e : r.2 = a
      · exfalso
        apply hj
        have hne : R ≠ [] := fun e => by subst e; simp at hr
        refine ⟨hne, ?_⟩
        have hs := last_split hne
        have hl := hA (rat R (R.length - 1)) (last_mem hne)
        rw [hs] at hr
        simp only [List.mem_append, List.mem_singleton] at hr
        rcases hr with hr | rfl
        · rw [hs, List.pairwise_append] at hP
          have := hP.2.2 r hr _ (by simp : rat R (R.length - 1) ∈ [rat R (R.length - 1)])
          omega
        · omega
      · omega
    simp only [Int.toNat_natCast]
    refine ⟨⟨?_, ?_⟩, ?_⟩
    · intro x hx
      simp only [List.mem_append, List.mem_singleton] at hx
      rcases hx with hx | rfl
      · have := hA x hx; omega
      · simp; omega
    · rw [List.pairwise_append]
      refine ⟨hP, List.pairwise_singleton _ _, fun x hx y hy => ?_⟩
      simp only [List.mem_singleton] at hy
      subst hy
      exact hlast x hx
    · intro j
      unfold inR
      simp only [List.mem_append, List.mem_singleton]
      constructor
      · rintro ⟨x, hx | rfl, h3, h4⟩
        · exact .inl ⟨x, hx, h3, h4⟩
        · exact .inr ⟨h3, h4⟩
      · rintro (⟨x, hx, h3, h4⟩ | ⟨h3, h4⟩)
        · exact ⟨x, .inl hx, h3, h4⟩
        · exact ⟨_, .inr rfl, h3, h4⟩

/-- When i lines have been read: the runs are in order and end where the open part begins; a line is gone just where a run covers it or the open part does. -/
theorem runs_at (ls : List Ln) (sec : ByteArray) (hs : sec ≠ ByteArray.empty) : ∀ i,
    (RS i (foldR sec (prts ls i)) ∧ ∀ a : Nat, (stp ls i).2.1 = a → RS a (foldR sec (prts ls i))) ∧
    ∀ j, j < i → (goneAt ls sec j ↔ inR (foldR sec (prts ls i)) j ∨ ((stp ls i).2.2 = true ∧ (stp ls i).1 = sec ∧ (stp ls i).2.1 ≤ j))
  | 0 => ⟨⟨⟨fun r h => by simp [foldR, prts] at h, by simp [foldR, prts]⟩, fun a h => by simp [stp] at h⟩, fun j h => by omega⟩
  | i + 1 => by
    obtain ⟨⟨hR, hRa⟩, hG⟩ := runs_at ls sec hs i
    have up : ∀ {m : Nat} {R : List (Nat × Nat)}, RS i R → i ≤ m → RS m R := fun h hm => ⟨fun r hr => by have := h.1 r hr; omega, h.2⟩
    by_cases hk : (at' ls i).k = 2 ∨ (at' ls i).k = 5
    · -- a header, sound or broken
      have key : RS i (foldR sec (prts ls (i + 1))) ∧ ∀ j, j < i → (goneAt ls sec j ↔ inR (foldR sec (prts ls (i + 1))) j) := by
        by_cases ho : (stp ls i).2.2 = true
        · rw [prts_yield hk ho, foldR_snoc]
          by_cases hn : (stp ls i).1 = sec
          · obtain ⟨a, ha, hl⟩ := stp_h ls i (by rw [hn]; exact hs)
            have := step_RS (sec := sec) (nm := (stp ls i).1) (a := a) (i := i) (hRa a ha) hn rfl hl
            rw [ha]
            refine ⟨this.1, fun j hj => ?_⟩
            rw [hG j hj, this.2 j, ha]
            constructor
            · rintro (h | ⟨_, _, h⟩)
              · exact .inl h
              · exact .inr ⟨by omega, hj⟩
            · rintro (h | ⟨h, _⟩)
              · exact .inl h
              · exact .inr ⟨ho, hn, by omega⟩
          · rw [stepR_no (by exact hn)]
            exact ⟨hR, fun j hj => by rw [hG j hj]; exact ⟨fun h => h.elim id (fun h => absurd h.2.1 hn), .inl⟩⟩
        · rw [prts_on (fun h => ho h.2)]
          exact ⟨hR, fun j hj => by rw [hG j hj]; exact ⟨fun h => h.elim id (fun h => absurd h.1 ho), .inl⟩⟩
      have hst : (stp ls (i + 1)).2.1 = (i : Int) := by
        rcases hk with h | h
        · rw [stp_head h]
        · rw [stp_bad h]
      refine ⟨⟨up key.1 (by omega), fun a ha => ?_⟩, fun j hj => ?_⟩
      · rw [hst] at ha
        have : i = a := by omega
        rw [← this]; exact key.1
      · have hnot : ¬ inR (foldR sec (prts ls (i + 1))) i := fun ⟨r, hr, h1, h2⟩ => by have := key.1.1 r hr; omega
        by_cases e : j = i
        · subst e
          rw [hst]
          unfold goneAt
          exact ⟨fun h => .inr ⟨h.1, h.2, Int.le_refl _⟩, fun h => h.elim (fun h => absurd h hnot) (fun h => ⟨h.1, h.2.1⟩)⟩
        · rw [key.2 j (by omega), hst]
          exact ⟨.inl, fun h => h.elim id (fun h => by have := h.2.2; omega)⟩
    · have h2 : (at' ls i).k ≠ 2 := fun h => hk (.inl h)
      have h5 : (at' ls i).k ≠ 5 := fun h => hk (.inr h)
      have hst := stp_on h2 h5
      rw [prts_on (fun h => hk h.1), hst]
      refine ⟨⟨up hR (by omega), hRa⟩, fun j hj => ?_⟩
      by_cases e : j = i
      · subst e
        have hnot : ¬ inR (foldR sec (prts ls j)) j := fun ⟨r, hr, h1, h2⟩ => by have := hR.1 r hr; omega
        have hlo := stp_lo ls j
        unfold goneAt
        rw [hst]
        exact ⟨fun h => .inr ⟨h.1, h.2, by omega⟩, fun h => h.elim (fun h => absurd h hnot) (fun h => ⟨h.1, h.2.1⟩)⟩
      · exact hG j (by omega)

def runsOf (ls : List Ln) (sec : ByteArray) : List (Nat × Nat) := foldR sec (allParts ls)

theorem runsOf_spec (ls : List Ln) (sec : ByteArray) (hs : sec ≠ ByteArray.empty) : RS ls.length (runsOf ls sec) ∧ ∀ j, j < ls.length → (goneAt ls sec j ↔ inR (runsOf ls sec) j) := by
  obtain ⟨⟨hR, hRa⟩, hG⟩ := runs_at ls sec hs ls.length
  unfold runsOf allParts
  by_cases ho : (stp ls ls.length).2.2 = true
  · rw [if_pos ho, foldR_snoc]
    by_cases hn : (stp ls ls.length).1 = sec
    · obtain ⟨a, ha, hl⟩ := stp_h ls ls.length (by rw [hn]; exact hs)
      have := step_RS (sec := sec) (nm := (stp ls ls.length).1) (a := a) (i := ls.length) (hRa a ha) hn rfl hl
      rw [ha]
      refine ⟨this.1, fun j hj => ?_⟩
      rw [hG j hj, this.2 j, ha]
      constructor
      · rintro (h | ⟨_, _, h⟩)
        · exact .inl h
        · exact .inr ⟨by omega, hj⟩
      · rintro (h | ⟨h, _⟩)
        · exact .inl h
        · exact .inr ⟨ho, hn, by omega⟩
    · rw [stepR_no (by exact hn)]
      exact ⟨hR, fun j hj => by rw [hG j hj]; exact ⟨fun h => h.elim id (fun h => absurd h.2.1 hn), .inl⟩⟩
  · rw [if_neg ho, List.append_nil]
    exact ⟨hR, fun j hj => by rw [hG j hj]; exact ⟨fun h => h.elim id (fun h => absurd h.1 ho), .inl⟩⟩

theorem RS.rok {n : Nat} {R : List (Nat × Nat)} (h : RS n R) : ∀ lo, lo ≤ n → (∀ r ∈ R, lo ≤ r.1) → ROk n lo R := by
  induction R with
  | nil => intro lo hl _; exact hl
  | cons r R ih =>
    intro lo _ hr
    obtain ⟨hA, hP⟩ := h
    rw [List.pairwise_cons] at hP
    have h1 := hA r (by simp)
    refine ⟨hr r (by simp), h1.1, ih ⟨fun x hx => hA x (by simp [hx]), hP.2⟩ r.2 h1.2 (fun x hx => ?_)⟩
    have := hP.1 x hx
    omega
#print axioms step_RS
#print axioms runsOf_spec
#print axioms allParts_ok
end Go.Proofs.Qxb6603539aFmt.Ds

/-
  The plain laws: what is left of the lines holds no header of the section; a run is there exactly where such a header is.
-/
import Derived.Test.Qxb6603539aFmtGone
namespace Go.Proofs.Qxb6603539aFmt.Ds

theorem ROk.ge {n : Nat} : ∀ {lo : Nat} {R : List (Nat × Nat)}, ROk n lo R → ∀ r ∈ R, lo ≤ r.1
  | _, [], _, r, hr => by cases hr
  | lo, x :: R, h, r, hr => by
    rcases List.mem_cons.1 hr with rfl | hr
    · exact h.1
    · have := ROk.ge h.2.2 r hr
      have := h.1; have := h.2.1; omega

theorem rem_mem {ls : List Ln} : ∀ {lo : Nat} {R : List (Nat × Nat)}, ROk ls.length lo R → ∀ l ∈ rem ls lo R, ∃ j, lo ≤ j ∧ j < ls.length ∧ at' ls j = l ∧ ¬ inR R j
  | lo, [], h, l, hl => by
    obtain ⟨k, hk, e⟩ := List.getElem_of_mem (show l ∈ ls.drop lo from hl)
    rw [List.length_drop] at hk
    refine ⟨lo + k, by omega, by omega, ?_, fun ⟨r, hr, _⟩ => by cases hr⟩
    rw [List.getElem_drop] at e
    simp [at', List.getD, show lo + k < ls.length by omega, e]
  | lo, r :: R, h, l, hl => by
    unfold rem at hl
    rcases List.mem_append.1 hl with hl | hl
    · obtain ⟨k, hk, e⟩ := List.getElem_of_mem hl
      rw [List.length_take, List.length_drop] at hk
      refine ⟨lo + k, by omega, by omega, ?_, ?_⟩
      · rw [List.getElem_take, List.getElem_drop] at e
        simp [at', List.getD, show lo + k < ls.length by omega, e]
      · rintro ⟨x, hx, h1, h2⟩
        rcases List.mem_cons.1 hx with rfl | hx
        · omega
        · have := h.2.2.ge x hx
          have := h.2.1; omega
    · obtain ⟨j, h1, h2, h3, h4⟩ := rem_mem h.2.2 l hl
      refine ⟨j, by have := h.1; have := h.2.1; omega, h2, h3, ?_⟩
      rintro ⟨x, hx, k1, k2⟩
      rcases List.mem_cons.1 hx with rfl | hx
      · omega
      · exact h4 ⟨x, hx, k1, k2⟩

def hasH (ls : List Ln) (sec : ByteArray) : Prop := ∃ i, i < ls.length ∧ (at' ls i).k = 2 ∧ nameOf (at' ls i).t = sec

theorem gone_head {ls : List Ln} {sec : ByteArray} {i : Nat} (h : (at' ls i).k = 2) (h2 : nameOf (at' ls i).t = sec) : goneAt ls sec i := by
  unfold goneAt; rw [stp_head h]; exact ⟨rfl, h2⟩

theorem head_of_gone {ls : List Ln} {sec : ByteArray} (hs : sec ≠ ByteArray.empty) : ∀ j, goneAt ls sec j → ∃ i, i ≤ j ∧ (at' ls i).k = 2 ∧ nameOf (at' ls i).t = sec := by
  intro j
  induction j with
  | zero =>
    intro h
    by_cases h2 : (at' ls 0).k = 2
    · unfold goneAt at h; rw [stp_head h2] at h; exact ⟨0, Nat.le_refl _, h2, h.2⟩
    · by_cases h5 : (at' ls 0).k = 5
      · unfold goneAt at h; rw [stp_bad h5] at h; exact absurd h.1 (by simp)
      · unfold goneAt at h; rw [stp_on h2 h5] at h; exact absurd h.2.symm hs
  | succ j ih =>
    intro h
    by_cases h2 : (at' ls (j + 1)).k = 2
    · unfold goneAt at h; rw [stp_head h2] at h; exact ⟨j + 1, Nat.le_refl _, h2, h.2⟩
    · by_cases h5 : (at' ls (j + 1)).k = 5
      · unfold goneAt at h; rw [stp_bad h5] at h; exact absurd h.1 (by simp)
      · unfold goneAt at h; rw [stp_on h2 h5] at h
        obtain ⟨i, h1, h3⟩ := ih h
        exact ⟨i, by omega, h3⟩

theorem runs_pos (ls : List Ln) (sec : ByteArray) (hs : sec ≠ ByteArray.empty) : 0 < (runsOf ls sec).length ↔ hasH ls sec := by
  obtain ⟨h1, h2⟩ := runsOf_spec ls sec hs
  constructor
  · intro h
    obtain ⟨r, hr⟩ := List.exists_mem_of_length_pos h
    obtain ⟨a1, a2⟩ := h1.1 r hr
    obtain ⟨i, b1, b2⟩ := head_of_gone hs r.1 ((h2 r.1 (by omega)).2 ⟨r, hr, Nat.le_refl _, a1⟩)
    exact ⟨i, by omega, b2⟩
  · rintro ⟨i, hi, k1, k2⟩
    obtain ⟨r, hr, _⟩ := (h2 i hi).1 (gone_head k1 k2)
    exact List.length_pos_of_mem hr

theorem rem_none (ls : List Ln) (sec : ByteArray) (hs : sec ≠ ByteArray.empty) : ∀ l ∈ rem ls 0 (runsOf ls sec), ¬ (l.k = 2 ∧ nameOf l.t = sec) := by
  obtain ⟨h1, h2⟩ := runsOf_spec ls sec hs
  intro l hl ⟨k1, k2⟩
  obtain ⟨j, _, hj, rfl, hn⟩ := rem_mem (RS.rok h1 0 (Nat.zero_le _) (fun _ _ => Nat.zero_le _)) l hl
  exact hn ((h2 j hj).1 (gone_head k1 k2))

theorem rem_sub (ls : List Ln) (sec : ByteArray) (hs : sec ≠ ByteArray.empty) : ∀ l ∈ rem ls 0 (runsOf ls sec), ∃ j, j < ls.length ∧ at' ls j = l := by
  obtain ⟨h1, h2⟩ := runsOf_spec ls sec hs
  intro l hl
  obtain ⟨j, _, hj, e, _⟩ := rem_mem (RS.rok h1 0 (Nat.zero_le _) (fun _ _ => Nat.zero_le _)) l hl
  exact ⟨j, hj, e⟩

theorem at_mem {ls : List Ln} {i : Nat} (h : i < ls.length) : at' ls i ∈ ls := by
  simp [at', List.getD, h]

/-- A second deletion finds nothing. -/
theorem runs_rem (ls : List Ln) (sec : ByteArray) (hs : sec ≠ ByteArray.empty) : runsOf (rem ls 0 (runsOf ls sec)) sec = [] := by
  have h : ¬ 0 < (runsOf (rem ls 0 (runsOf ls sec)) sec).length := by
    rw [runs_pos _ _ hs]
    rintro ⟨i, hi, k1, k2⟩
    exact rem_none ls sec hs _ (at_mem hi) ⟨k1, k2⟩
  exact List.eq_nil_of_length_eq_zero (by omega)
#print axioms runs_rem
end Go.Proofs.Qxb6603539aFmt.Ds

import Derived.Test.Qxb6603539aLaw0
namespace Go.Proofs.Qxb6603539a.Ds
open Go.RowKit

/-! ### One name kept: the sections of that name -/
def pN (nm : ByteArray) (s : Sc) : Bool := decide (s.nm = nm)
def kN (nm : ByteArray) : ByteArray → Bool := fun x => x.toList == nm.toList
theorem kN_eq (nm x : ByteArray) : kN nm x = decide (x = nm) := beq_bytes x nm

theorem pN_yes {nm : ByteArray} {s : Sc} (h : s.nm = nm) : pN nm s = true := decide_eq_true h
theorem pN_no {nm : ByteArray} {s : Sc} (h : s.nm ≠ nm) : pN nm s = false := decide_eq_false h
theorem sidx_cons (nm : ByteArray) (s : Sc) (S : List Sc) : sidx (s :: S) nm = if s.nm = nm then 0 else sidx S nm + 1 := by
  unfold sidx
  rw [List.findIdx_cons]
  by_cases h : s.nm = nm
  · simp [h]
  · simp [h]
theorem sat_cons_succ (s : Sc) (S : List Sc) (i : Nat) : sat (s :: S) (i + 1) = sat S i := by simp [sat, List.getD]
theorem sat_cons_zero (s : Sc) (S : List Sc) : sat (s :: S) 0 = s := by simp [sat, List.getD]
/-- The first of that name heads the filtered list. -/
theorem filt_head (nm : ByteArray) : ∀ S : List Sc, sidx S nm < S.length → ∃ rest, S.filter (pN nm) = sat S (sidx S nm) :: rest
  | [], h => by simp at h
  | s :: S, h => by
    rw [sidx_cons] at h ⊢
    by_cases e : s.nm = nm
    · rw [if_pos e, sat_cons_zero, List.filter_cons_of_pos (pN_yes e)]; exact ⟨_, rfl⟩
    · rw [if_neg e] at h ⊢
      rw [sat_cons_succ, List.filter_cons_of_neg (by rw [pN_no e]; simp)]
      exact filt_head nm S (by simpa using h)
theorem filt_none (nm : ByteArray) (S : List Sc) (h : ¬ sidx S nm < S.length) : S.filter (pN nm) = [] := by
  rw [List.filter_eq_nil_iff]
  intro s hs
  obtain ⟨i, hi, rfl⟩ := List.getElem_of_mem hs
  have := sidx_none h i hi
  simp only [sat, List.getD, List.getElem?_eq_getElem hi, Option.getD_some] at this
  rw [pN_no this]; simp
theorem filt_all (nm : ByteArray) (S : List Sc) : ∀ i, i < (S.filter (pN nm)).length → (sat (S.filter (pN nm)) i).nm = nm := fun i hi => by
  have := (List.mem_filter.1 (List.getElem_mem hi)).2
  simp only [sat, List.getD, List.getElem?_eq_getElem hi, Option.getD_some]
  exact of_decide_eq_true this
theorem filt_idx (nm : ByteArray) (S : List Sc) (h : 0 < (S.filter (pN nm)).length) : sidx (S.filter (pN nm)) nm = 0 := sidx_eq h (filt_all nm S 0 h) (fun j hj => by omega)
theorem filt_set (nm : ByteArray) (x : Sc) (hx : x.nm = nm) : ∀ S : List Sc, sidx S nm < S.length → (S.set (sidx S nm) x).filter (pN nm) = (S.filter (pN nm)).set 0 x
  | [], h => by simp at h
  | s :: S, h => by
    rw [sidx_cons] at h ⊢
    by_cases e : s.nm = nm
    · rw [if_pos e, List.set_cons_zero, List.filter_cons_of_pos (pN_yes hx), List.filter_cons_of_pos (pN_yes e), List.set_cons_zero]
    · rw [if_neg e] at h ⊢
      rw [List.set_cons_succ, List.filter_cons_of_neg (by rw [pN_no e]; simp), List.filter_cons_of_neg (by rw [pN_no e]; simp)]
      exact filt_set nm x hx S (by simpa using h)
theorem filt_set_no (nm : ByteArray) (x : Sc) (hx : x.nm ≠ nm) : ∀ (S : List Sc) (i : Nat), i < S.length → (sat S i).nm ≠ nm → (S.set i x).filter (pN nm) = S.filter (pN nm)
  | [], i, h, _ => by simp at h
  | s :: S, 0, h, e => by
    rw [sat_cons_zero] at e
    rw [List.set_cons_zero, List.filter_cons_of_neg (by rw [pN_no hx]; simp), List.filter_cons_of_neg (by rw [pN_no e]; simp)]
  | s :: S, i + 1, h, e => by
    rw [sat_cons_succ] at e
    rw [List.set_cons_succ, List.filter_cons, List.filter_cons, filt_set_no nm x hx S i (by simpa using h) e]

theorem filt_opn (S : List Sc) (nm x : ByteArray) : (opn S x).filter (pN nm) = if x = nm then opn (S.filter (pN nm)) nm else S.filter (pN nm) := by
  by_cases e : x = nm
  · subst e
    rw [if_pos rfl]
    by_cases h : sidx S x < S.length
    · obtain ⟨rest, hr⟩ := filt_head x S h
      have hl : 0 < (S.filter (pN x)).length := by rw [hr]; simp
      have h1 : opn S x = S := by unfold opn; rw [if_pos h]
      have h2 : opn (S.filter (pN x)) x = S.filter (pN x) := by unfold opn; rw [if_pos (by rw [filt_idx x S hl]; exact hl)]
      rw [h1, h2]
    · have h1 : opn S x = addSec S x := by unfold opn; rw [if_neg h]
      rw [h1, addSec, List.filter_append, filt_none x S h, List.filter_cons_of_pos (pN_yes (s := ⟨x, []⟩) rfl)]
      rfl
  · rw [if_neg e]
    unfold opn
    split
    · rfl
    · rw [addSec, List.filter_append, List.filter_cons_of_neg (by rw [pN_no e]; simp)]
      simp

/-- What an entry makes of its section. -/
def updK (K : List Ky) (key : ByteArray) : List Ky := if kidx K key < K.length then K else K ++ [⟨key, []⟩]
def updS (s : Sc) (key v : ByteArray) : Sc := ⟨s.nm, (updK s.ks key).set (kidx (updK s.ks key) key) ⟨(kat (updK s.ks key) (kidx (updK s.ks key) key)).nm, (kat (updK s.ks key) (kidx (updK s.ks key) key)).vs ++ [v]⟩⟩
theorem ent_upd (S : List Sc) (nm key v : ByteArray) : ent S nm key v = (opn S nm).set (sidx (opn S nm) nm) (updS (sat (opn S nm) (sidx (opn S nm) nm)) key v) := by
  have hi := sidx_opn S nm
  unfold ent
  generalize opn S nm = T at hi ⊢
  generalize sidx T nm = i at hi ⊢
  by_cases h : kidx (sat T i).ks key < (sat T i).ks.length
  · have h1 : opk T i key = T := by unfold opk; rw [if_pos h]
    rw [h1]
    unfold updS addVal
    have h2 : updK (sat T i).ks key = (sat T i).ks := by unfold updK; rw [if_pos h]
    rw [h2]
  · have h1 : opk T i key = addKey T i key := by unfold opk; rw [if_neg h]
    have h2 : updK (sat T i).ks key = (sat T i).ks ++ [⟨key, []⟩] := by unfold updK; rw [if_neg h]
    rw [h1]
    unfold updS addVal
    rw [h2]
    have h3 : sat (addKey T i key) i = ⟨(sat T i).nm, (sat T i).ks ++ [⟨key, []⟩]⟩ := by unfold addKey; rw [sat_set_same hi]
    rw [h3]
    unfold addKey
    rw [List.set_set]

theorem filt_ent (S : List Sc) (nm x key v : ByteArray) : (ent S x key v).filter (pN nm) = if x = nm then ent (S.filter (pN nm)) nm key v else S.filter (pN nm) := by
  have hi := sidx_opn S x
  have hn := sidx_hit hi
  rw [ent_upd]
  by_cases e : x = nm
  · subst e
    rw [if_pos rfl, filt_set x _ (by show (updS _ key v).nm = x; exact hn) _ hi]
    have hf := filt_opn S x x
    rw [if_pos rfl] at hf
    rw [ent_upd, ← hf]
    obtain ⟨rest, hr⟩ := filt_head x _ hi
    have hl : 0 < ((opn S x).filter (pN x)).length := by rw [hr]; simp
    rw [filt_idx x _ hl]
    congr 2
    rw [hr, sat_cons_zero]
  · rw [if_neg e, filt_set_no nm _ (by show (updS _ key v).nm ≠ nm; show (sat _ _).nm ≠ nm; rw [hn]; exact e) _ _ hi (by rw [hn]; exact e)]
    have hf := filt_opn S nm x
    rw [if_neg e] at hf
    exact hf

theorem filt_foldE (ls : List Ln) (nm x : ByteArray) : ∀ (is : List Nat) (S : List Sc), (foldE keyT EV ls x S is).filter (pN nm) = if x = nm then foldE keyT EV ls nm (S.filter (pN nm)) is else S.filter (pN nm)
  | [], S => by simp [foldE]
  | i :: is, S => by
    have h1 : foldE keyT EV ls x S (i :: is) = foldE keyT EV ls x (ent S x (keyT (at' ls i).t) (EV ls i)) is := rfl
    have h2 : foldE keyT EV ls nm (S.filter (pN nm)) (i :: is) = foldE keyT EV ls nm (ent (S.filter (pN nm)) nm (keyT (at' ls i).t) (EV ls i)) is := rfl
    rw [h1, filt_foldE ls nm x is, filt_ent, h2]
    by_cases e : x = nm
    · rw [if_pos e, if_pos e, if_pos e]
    · rw [if_neg e, if_neg e, if_neg e]
theorem filt_step (nm : ByteArray) (S : List Sc) (y : Fl × Part) : stepP (kN nm) keyT EV (S.filter (pN nm)) y = (stepP tt keyT EV S y).filter (pN nm) := by
  unfold stepP
  rw [kN_eq, if_pos (show tt _ = true from rfl), filt_foldE]
  by_cases e : y.2.nm = nm
  · rw [if_pos (decide_eq_true e), if_pos e, e]
    congr 1
    unfold opH
    split
    · rw [filt_opn, if_pos e, e]
    · rfl
  · rw [if_neg (by rw [decide_eq_false e]; simp), if_neg e]
    unfold opH
    split
    · rw [filt_opn, if_neg e]
    · rfl
theorem filt_fold (nm : ByteArray) : ∀ (ys : List (Fl × Part)) (S : List Sc), foldP (kN nm) keyT EV (S.filter (pN nm)) ys = (foldP tt keyT EV S ys).filter (pN nm)
  | [], S => rfl
  | y :: ys, S => by
    show foldP (kN nm) keyT EV (stepP (kN nm) keyT EV (S.filter (pN nm)) y) ys = (foldP tt keyT EV (stepP tt keyT EV S y) ys).filter (pN nm)
    rw [filt_step]
    exact filt_fold nm ys _
theorem named_all (fs : List Fl) (nm : ByteArray) : foldP (kN nm) keyT EV [] (fileParts fs) = (modF fs fs.length).filter (pN nm) := by
  rw [← fold_all]
  exact filt_fold nm (fileParts fs) []
/-- At most one section of that name. -/
theorem filt_one {Q : Nat} {nm : ByteArray} {S : List Sc} (hw : WF Q (S.filter (pN nm))) (h : sidx S nm < S.length) : S.filter (pN nm) = [sat S (sidx S nm)] := by
  obtain ⟨rest, hr⟩ := filt_head nm S h
  cases rest with
  | nil => exact hr
  | cons b r =>
    have hl : 1 < (S.filter (pN nm)).length := by rw [hr]; simp
    have := hw.apart 0 1 (by omega) hl (by rw [filt_all nm S 0 (by omega), filt_all nm S 1 hl])
    omega
end Go.Proofs.Qxb6603539a.Ds

import Derived.Test.Qxb6603539aMod0
import Derived.Test.Qxb6603539aParts
import Derived.Test.Qxb6603539aWIdx
namespace Go.Proofs.Qxb6603539a.Ds
open Go.RowKit

/-! ### The fold over the parts is the fold over the lines -/
def tt : ByteArray → Bool := fun _ => true
theorem foldP_app (kp : ByteArray → Bool) (S : List Sc) (a b : List (Fl × Part)) : foldP kp keyT EV S (a ++ b) = foldP kp keyT EV (foldP kp keyT EV S a) b := by simp [foldP]
/-- What the parts handed out so far make of S0. -/
def fP (f : Fl) (S0 : List Sc) (i : Nat) : List Sc := foldP tt keyT EV S0 ((prts f.ls i).map fun p => (f, p))
/-- .. and the part that is open. -/
def fO (f : Fl) (S0 : List Sc) (i : Nat) : List Sc :=
  if (stp f.ls i).2.2 = true then foldE keyT EV f.ls (stp f.ls i).1 (opH (fP f S0 i) ⟨(stp f.ls i).1, (stp f.ls i).2.1, (i : Int)⟩) (entU f.ls ((stp f.ls i).2.1 + 1).toNat (i - ((stp f.ls i).2.1 + 1).toNat)) else fP f S0 i
theorem opH_e (S : List Sc) (nm : ByteArray) (h e e' : Int) : opH S ⟨nm, h, e⟩ = opH S ⟨nm, h, e'⟩ := rfl
theorem step_part (f : Fl) (S : List Sc) (nm : ByteArray) (h : Int) (i : Nat) : stepP tt keyT EV S (f, ⟨nm, h, (i : Int)⟩) = foldE keyT EV f.ls nm (opH S ⟨nm, h, (i : Int)⟩) (entU f.ls (h + 1).toNat (i - (h + 1).toNat)) := by
  unfold stepP
  rw [if_pos (show tt _ = true from rfl)]
  simp only [entsOf, Int.toNat_natCast]
theorem fP_yield {f : Fl} {S0 : List Sc} {i : Nat} (h : (at' f.ls i).k = 2 ∨ (at' f.ls i).k = 5) : fP f S0 (i + 1) = fO f S0 i := by
  unfold fO
  by_cases ho : (stp f.ls i).2.2 = true
  · rw [if_pos ho]
    unfold fP
    rw [prts_yield h ho, List.map_append, foldP_app]
    rw [← step_part]
    rfl
  · rw [if_neg ho]
    unfold fP
    rw [prts_on (fun e => ho e.2)]
theorem fP_on {f : Fl} {S0 : List Sc} {i : Nat} (h : (at' f.ls i).k ≠ 2) (h' : (at' f.ls i).k ≠ 5) : fP f S0 (i + 1) = fP f S0 i := by
  unfold fP; rw [prts_on (fun e => by omega)]
theorem mS_fO (f : Fl) (S0 : List Sc) : ∀ i, mS S0 f.ls i = fO f S0 i
  | 0 => by
    unfold fO mS
    rw [if_pos (by rfl)]
    rfl
  | i + 1 => by
    have ih := mS_fO f S0 i
    by_cases h2 : (at' f.ls i).k = 2
    · rw [mS_head h2, ih]
      conv => rhs; unfold fO
      rw [stp_head h2]
      simp only [if_true]
      rw [fP_yield (.inl h2), show ((i : Int) + 1).toNat = i + 1 by omega, Nat.sub_self]
      generalize fO f S0 i = X
      unfold opH
      rw [if_pos (show (0 : Int) ≤ (i : Int) by omega)]
      rfl
    · by_cases h5 : (at' f.ls i).k = 5
      · rw [mS_on (by omega) (by omega), ih]
        conv => rhs; unfold fO
        rw [stp_bad h5]
        rw [if_neg (by simp), fP_yield (.inr h5)]
      · have hlo := stp_lo f.ls i
        have e1 : i + 1 - ((stp f.ls i).2.1 + 1).toNat = (i - ((stp f.ls i).2.1 + 1).toNat) + 1 := by omega
        have e2 : ((stp f.ls i).2.1 + 1).toNat + (i - ((stp f.ls i).2.1 + 1).toNat) = i := by omega
        by_cases ho : (stp f.ls i).2.2 = true
        · by_cases h3 : (at' f.ls i).k = 3
          · rw [mS_ent h3 ho, ih]
            unfold fO
            rw [stp_on h2 h5, if_pos ho, if_pos ho, fP_on h2 h5, e1, entU_yes (by rw [e2]; exact h3), foldE_snoc, e2]
            rfl
          · rw [mS_on h2 (by omega), ih]
            unfold fO
            rw [stp_on h2 h5, if_pos ho, if_pos ho, fP_on h2 h5, e1, entU_no (by rw [e2]; exact h3)]
            rfl
        · rw [mS_on h2 (fun e => ho e.2), ih]
          unfold fO
          rw [stp_on h2 h5, if_neg ho, if_neg ho, fP_on h2 h5]
theorem file_fold (f : Fl) (S0 : List Sc) : foldP tt keyT EV S0 ((allParts f.ls).map fun p => (f, p)) = mS S0 f.ls f.ls.length := by
  rw [mS_fO]
  unfold allParts
  rw [List.map_append, foldP_app]
  show foldP tt keyT EV (fP f S0 f.ls.length) _ = _
  unfold fO
  by_cases ho : (stp f.ls f.ls.length).2.2 = true
  · rw [if_pos ho, if_pos ho, ← step_part]
    rfl
  · rw [if_neg ho, if_neg ho]
    rfl
theorem fold_take (fs : List Fl) : ∀ k, k ≤ fs.length → foldP tt keyT EV [] (fileParts (fs.take k)) = modF fs k
  | 0, _ => by simp [fileParts, foldP, modF]
  | k + 1, h => by
    have hk : k < fs.length := by omega
    have hf : fs[k] = fl fs k := by have := fl_some hk; rw [List.getElem?_eq_getElem hk] at this; exact Option.some.inj this
    rw [List.take_succ_eq_append_getElem hk, fileParts_snoc, foldP_app, fold_take fs k (by omega), hf, file_fold, modF]
theorem fold_all (fs : List Fl) : foldP tt keyT EV [] (fileParts fs) = modF fs fs.length := by
  have := fold_take fs fs.length (Nat.le_refl _)
  rw [List.take_length] at this; exact this
end Go.Proofs.Qxb6603539a.Ds

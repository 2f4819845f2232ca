import Derived.Test.Qxb6603539aProg
import Derived.WalkKit
import Derived.WalkSpells
import Derived.Deep.QuietTactic
import Derived.BigQuiet
import Derived.Lib.Bytealg
import Derived.Lib.IndexLaws
import Derived.Test.Qxb6603539aWStrI
namespace Go.Proofs.Qxb6603539a.Ds
open Go.RowKit

theorem emp_yes {t : ByteArray} (h : t.size = 0) : t.toList.isEmpty = true := by
  rw [ByteArray.toList_eq]
  have : t.data.toList.length = 0 := by simpa using h
  simpa using List.eq_nil_of_length_eq_zero this
theorem emp_no {t : ByteArray} (h : 0 < t.size) : t.toList.isEmpty = false := by
  rw [ByteArray.toList_eq]
  have : t.data.toList.length ≠ 0 := by simp; intro h2; rw [h2] at h; simp at h
  cases hl : t.data.toList with
  | nil => rw [hl] at this; simp at this
  | cons => rfl

/-- Does the text open a comment? -/
def comB (t : ByteArray) : Bool := decide (0 < t.size ∧ (bt t 0 = 59 ∨ bt t 0 = 35))

theorem comment_any (t : ByteArray) (w : World) : Calls Try.prog 76 #[.string t] w fun e w' => e = .returned (.bool (comB t)) ∧ w' = w := by
  by_cases hz : t.size = 0
  · have he := emp_yes hz
    have HB : Hid (comB t = false) := by simp [Hid, comB, hz]
    go_enter Try.func76, Try.ntmps76
    go_wp2
    go_ret
    exact ⟨ret_bool HB.out.symm, rfl⟩
  · have hp : 0 < t.size := by omega
    have he := emp_no hp
    have hb0 := bt_eq t 0 hp
    by_cases h1 : bt t 0 = 59
    · have t1 : (((t[0]'hp).toNat : Int) == 59) = true := by rw [hb0, h1]; rfl
      have HB : Hid (comB t = true) := by simp [Hid, comB, hp, h1]
      clear hb0 h1
      go_enter Try.func76, Try.ntmps76
      go_wp2
      go_ret
      exact ⟨ret_bool HB.out.symm, rfl⟩
    · have t1 : (((t[0]'hp).toNat : Int) == 59) = false := by rw [hb0]; simpa using h1
      by_cases h2 : bt t 0 = 35
      · have t2 : (((t[0]'hp).toNat : Int) == 35) = true := by rw [hb0, h2]; rfl
        have HB : Hid (comB t = true) := by simp [Hid, comB, hp, h2]
        clear hb0 h1 h2
        go_enter Try.func76, Try.ntmps76
        go_wp2
        go_ret
        exact ⟨ret_bool HB.out.symm, rfl⟩
      · have t2 : (((t[0]'hp).toNat : Int) == 35) = false := by rw [hb0]; simpa using h2
        have HB : Hid (comB t = false) := by simp [Hid, comB, h1, h2]
        clear hb0 h1 h2
        go_enter Try.func76, Try.ntmps76
        go_wp2
        go_ret
        exact ⟨ret_bool HB.out.symm, rfl⟩

/-- strings.IndexByte of ']'. -/
theorem index_entry (s : ByteArray) (w : World) : Calls Try.prog 75 #[.string s, .int .u8 93] w fun e w' => e = .returned (.int .i64 (Lib.indexByte s.data.toList (93 : Int).toNat.toUInt8)) ∧ w' = w := by
  go_enter Try.func75, Try.ntmps75
  go_wp2
  rw [run_callFunc_extern Try.func81 (by kernel_rfl) (by kernel_rfl) (by kernel_rfl) (e := Extern.BytealgIndexByte.indexByte) (by kernel_rfl), Lib.run_indexByteString]
  simp only [Result.andThen]
  rw [Oper.upon_value]
  go_wp2
  go_ret
  exact ⟨rfl, rfl⟩

theorem bt_list (s : ByteArray) (i : Nat) (h : i < s.size) : s.data.toList[i]? = some ((s[i]'h)) := by
  have : i < s.data.toList.length := by simpa using h
  rw [List.getElem?_eq_getElem this]; rfl

theorem index_fst (s : ByteArray) : Lib.indexByte s.data.toList (93 : Int).toNat.toUInt8 = if fst s 93 < s.size then (fst s 93 : Int) else -1 := by
  have e93 : (93 : Int).toNat.toUInt8 = (93 : UInt8) := rfl
  rw [e93]
  have hle := fst_le s 93
  have hge := Lib.indexByte_ge s.data.toList 93
  by_cases hn : Lib.indexByte s.data.toList 93 = -1
  · rw [hn]
    have h := Lib.indexByte_none hn
    rw [if_neg]
    intro hl
    apply h (fst s 93)
    rw [bt_list s _ hl]
    have h2 := fst_end s 93 hl
    rw [← bt_eq s _ hl] at h2
    congr 1
    apply UInt8.toNat_inj.1
    have : (93 : UInt8).toNat = 93 := rfl
    omega
  · obtain ⟨q, hq⟩ : ∃ q : Nat, Lib.indexByte s.data.toList 93 = q := ⟨_, (Int.toNat_of_nonneg (by omega)).symm⟩
    rw [hq]
    obtain ⟨h1, h2⟩ := Lib.indexByte_some hq
    have hl : q < s.size := by
      have := (List.getElem?_eq_some_iff.1 h1).1
      simpa using this
    have hbq : bt s q = 93 := by
      rw [bt_list s q hl] at h1
      rw [← bt_eq s q hl]
      have := congrArg UInt8.toNat (Option.some.inj h1)
      have h93 : (93 : UInt8).toNat = 93 := rfl
      omega
    have a1 : ¬ q < fst s 93 := fun h => fst_in s 93 q h hbq
    have a2 : ¬ fst s 93 < q := fun h => by
      have hfl : fst s 93 < s.size := by omega
      apply h2 (fst s 93) h
      rw [bt_list s _ hfl]
      have h3 := fst_end s 93 hfl
      rw [← bt_eq s _ hfl] at h3
      congr 1
      apply UInt8.toNat_inj.1
      have : (93 : UInt8).toNat = 93 := rfl
      omega
    have : q = fst s 93 := by omega
    rw [← this, if_pos hl]

/-- Is the text behind '[' a header's? -/
def hok (s : ByteArray) : Bool := decide (fst s 93 < s.size ∧ ¬ (0 < (aft s (fst s 93)).size ∧ bt (aft s (fst s 93)) 0 ≠ 59 ∧ bt (aft s (fst s 93)) 0 ≠ 35))

theorem ret2s {a a' : ByteArray} {q q' : Bool} (h : a = a') (h' : q = q') : Ending.returned (.tuple #[.string a, .bool q]) = Ending.returned (.tuple #[.string a', .bool q']) := by rw [h, h']

set_option maxHeartbeats 1000000 in
theorem head_any (s : ByteArray) (w : World) (hs : s.size ≤ maxLen) : Calls Try.prog 69 #[.string s] w fun e w' => e = .returned (.tuple #[.string (hnm s), .bool (hok s)]) ∧ w' = w := by
  have HM : Hid (s.size ≤ maxLen) := hs
  unfold maxLen at hs
  have hI := index_entry s w
  rw [index_fst] at hI
  have hle := fst_le s 93
  by_cases hf : fst s 93 < s.size
  · rw [if_pos hf] at hI
    have HN := hide (hnm_good hf)
    have HNB := hide (hnm_bad hf)
    have HOK : Hid (hok s = decide (¬ (0 < (aft s (fst s 93)).size ∧ bt (aft s (fst s 93)) 0 ≠ 59 ∧ bt (aft s (fst s 93)) 0 ≠ 35))) := by
      unfold hok; simp [Hid, hf]
    obtain ⟨f, hfe⟩ : ∃ f, fst s 93 = f := ⟨_, rfl⟩
    rw [hfe] at hI HN HNB HOK hf
    have HI := hide hI
    clear hI hfe hle
    have HD : Hid (∀ w, Calls Try.prog 62 #[.string (s.extract (f + 1) s.size)] w fun e w' => e = .returned (.int .i64 (ind (s.extract (f + 1) s.size))) ∧ w' = w) := fun w => ini_indent _ w (by have := HM.out; unfold maxLen at *; simp; omega)
    have hil := ind_le (s.extract (f + 1) s.size)
    have HT : Hid (∀ w, Calls Try.prog 55 #[.string (s.extract 0 f)] w fun e w' => e = .returned (.string (trm (s.extract 0 f))) ∧ w' = w) := fun w => ini_trim _ w (by have := HM.out; unfold maxLen at *; simp; omega)
    by_cases hz : (aft s f).size = 0
    · have he := emp_yes hz
      unfold aft at he
      have HR : Hid (hnm s = trm (s.extract 0 f)) := HN.out (by omega)
      have HO : Hid (hok s = true) := by rw [Hid, HOK.out]; exact decide_eq_true (by omega)
      have HC : Hid True := trivial
      clear hz
      go_enter Try.func69, Try.ntmps69
      go_wp2_with (first | (go_at_call 75; refine HI.out.mono ?_; rintro e w' ⟨rfl, hw⟩; have hw' := hw.symm; subst hw') | (go_at_call 62; refine (HD.out _).mono ?_; rintro e w' ⟨rfl, hw⟩; have hw' := hw.symm; subst hw') | (go_at_call 76; refine (HC.out _).mono ?_; rintro e w' ⟨rfl, hw⟩; have hw' := hw.symm; subst hw') | (go_at_call 55; refine (HT.out _).mono ?_; rintro e w' ⟨rfl, hw⟩; have hw' := hw.symm; subst hw'))
      go_ret2
      exact ⟨ret2s HR.out.symm HO.out.symm, rfl⟩
    · have he := emp_no (show 0 < (aft s f).size by omega)
      unfold aft at he
      have hC := fun w => comment_any (aft s f) w
      rcases Bool.eq_false_or_eq_true (comB (aft s f)) with hb | hb
      · have hb' : 0 < (aft s f).size ∧ (bt (aft s f) 0 = 59 ∨ bt (aft s f) 0 = 35) := of_decide_eq_true hb
        have HR : Hid (hnm s = trm (s.extract 0 f)) := HN.out (by omega)
        have HO : Hid (hok s = true) := by rw [Hid, HOK.out]; exact decide_eq_true (by omega)
        rw [hb] at hC
        unfold aft at hC
        have HC := hide hC
        clear hz hC hb hb'
        go_enter Try.func69, Try.ntmps69
        go_wp2_with (first | (go_at_call 75; refine HI.out.mono ?_; rintro e w' ⟨rfl, hw⟩; have hw' := hw.symm; subst hw') | (go_at_call 62; refine (HD.out _).mono ?_; rintro e w' ⟨rfl, hw⟩; have hw' := hw.symm; subst hw') | (go_at_call 76; refine (HC.out _).mono ?_; rintro e w' ⟨rfl, hw⟩; have hw' := hw.symm; subst hw') | (go_at_call 55; refine (HT.out _).mono ?_; rintro e w' ⟨rfl, hw⟩; have hw' := hw.symm; subst hw'))
        go_ret2
        exact ⟨ret2s HR.out.symm HO.out.symm, rfl⟩
      · have hb' : ¬ (0 < (aft s f).size ∧ (bt (aft s f) 0 = 59 ∨ bt (aft s f) 0 = 35)) := of_decide_eq_false hb
        have HR : Hid (hnm s = ByteArray.empty) := HNB.out (by omega) (by omega) (by omega)
        have HO : Hid (hok s = false) := by rw [Hid, HOK.out]; exact decide_eq_false (by omega)
        rw [hb] at hC
        unfold aft at hC
        have HC := hide hC
        clear hz hC hb hb'
        go_enter Try.func69, Try.ntmps69
        go_wp2_with (first | (go_at_call 75; refine HI.out.mono ?_; rintro e w' ⟨rfl, hw⟩; have hw' := hw.symm; subst hw') | (go_at_call 62; refine (HD.out _).mono ?_; rintro e w' ⟨rfl, hw⟩; have hw' := hw.symm; subst hw') | (go_at_call 76; refine (HC.out _).mono ?_; rintro e w' ⟨rfl, hw⟩; have hw' := hw.symm; subst hw') | (go_at_call 55; refine (HT.out _).mono ?_; rintro e w' ⟨rfl, hw⟩; have hw' := hw.symm; subst hw'))
        go_ret2
        exact ⟨ret2s HR.out.symm HO.out.symm, rfl⟩
  · rw [if_neg hf] at hI
    have HI := hide hI
    have HN := hide (hnm_none hf)
    have HOK : Hid (hok s = false) := by unfold hok; simp [Hid, hf]
    clear hI
    go_enter Try.func69, Try.ntmps69
    go_wp2_with (go_at_call 75; refine HI.out.mono ?_; rintro e w' ⟨rfl, hw⟩; have hw' := hw.symm; subst hw')
    go_ret2
    exact ⟨ret2s HN.out.symm HOK.out.symm, rfl⟩
end Go.Proofs.Qxb6603539a.Ds

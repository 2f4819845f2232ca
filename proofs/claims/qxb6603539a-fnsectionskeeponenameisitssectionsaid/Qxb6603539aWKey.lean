import Derived.Test.Qxb6603539aWAny2
import Derived.Test.Qxb6603539aWLine
import Derived.Test.Qxb6603539aParts
import Derived.BigQuiet
namespace Go.Proofs.Qxb6603539a.Ds
open Go.RowKit

def keyP (x : ByteArray) : ByteArray := trm (x.extract 0 (sep x))
def valP (x : ByteArray) : ByteArray := trm (x.extract (sep x + 1) x.size)
def keyT (t : ByteArray) : ByteArray := keyP (t.extract (ind t) t.size)
def valT (t : ByteArray) : ByteArray := valP (t.extract (ind t) t.size)
theorem keyP_size (x : ByteArray) : (keyP x).size ≤ x.size := by
  unfold keyP; have := trm_size (x.extract 0 (sep x)); simp at this; omega
theorem valP_size (x : ByteArray) : (valP x).size ≤ x.size := by
  unfold valP; have := trm_size (x.extract (sep x + 1) x.size); simp at this; omega
theorem keyT_size (t : ByteArray) : (keyT t).size ≤ t.size := by
  unfold keyT; have := keyP_size (t.extract (ind t) t.size); simp at this; omega
theorem valT_size (t : ByteArray) : (valT t).size ≤ t.size := by
  unfold valT; have := valP_size (t.extract (ind t) t.size); simp at this; omega
theorem ret2ss {a a' b b' : ByteArray} (h : a = a') (h' : b = b') : Ending.returned (.tuple #[.string a, .string b]) = Ending.returned (.tuple #[.string a', .string b']) := by rw [h, h']
theorem trm_empty : trm ByteArray.empty = ByteArray.empty := by
  have : (trm ByteArray.empty).size = 0 := by have h := trm_size ByteArray.empty; have : ByteArray.empty.size = 0 := rfl; omega
  exact ByteArray.size_eq_zero_iff.1 this

set_option maxHeartbeats 1000000 in
theorem split_any (x : ByteArray) (w : World) (hs : x.size ≤ 1048576) : Calls Try.prog 52 #[.string x] w fun e w' => e = .returned (.tuple #[.string (keyP x), .string (valP x)]) ∧ Below w.heap.size w w' := by
  have HA := hide (any_any x w hs)
  have hse := sep_le x
  by_cases hlt : sep x < x.size
  · have hi : sepI x = (sep x : Int) := by unfold sepI; rw [if_pos hlt]
    rw [hi] at HA
    have HT1 : Hid (∀ w, Calls Try.prog 55 #[.string (x.extract 0 (sep x))] w fun e w' => e = .returned (.string (trm (x.extract 0 (sep x)))) ∧ w' = w) := fun w => ini_trim _ w (by unfold maxLen; simp; omega)
    have HT2 : Hid (∀ w, Calls Try.prog 55 #[.string (x.extract (sep x + 1) x.size)] w fun e w' => e = .returned (.string (trm (x.extract (sep x + 1) x.size))) ∧ w' = w) := fun w => ini_trim _ w (by unfold maxLen; simp; omega)
    have hb0 : (0 : Int) ≤ (sep x : Int) := by omega
    have hb00 : (sep x : Int) ≤ (x.size : Int) := by omega
    have hb01 : (sep x : Int).toNat = sep x := by omega
    have hb1 : (0 : Int) ≤ (sep x : Int) + 1 := by omega
    have hb2 : (sep x : Int) + 1 ≤ (x.size : Int) := by omega
    have hb3 : IntKind.i64.wrap ((sep x : Int) + 1) = (sep x : Int) + 1 := IntWalk.i64_in _ (by omega)
    have hb4 : ((sep x : Int) + 1).toNat = sep x + 1 := by omega
    have hd : decide (0 ≤ (sep x : Int)) = true := decide_eq_true hb0
    go_enter Try.func52, Try.ntmps52
    go_wp2_with (go_at_call 61; refine HA.out.mono ?_)
    rintro e W' ⟨rfl, hb⟩
    have HB := hide hb
    clear hb
    go_wp2
    go_quiet (fail)
    go_wp2_with (go_at_call 55; refine (HT1.out _).mono ?_)
    rintro e w' ⟨rfl, hw⟩
    have hw' := hw.symm
    subst hw'
    go_wp2_with (go_at_call 55; refine (HT2.out _).mono ?_)
    rintro e w' ⟨rfl, hw⟩
    have hw' := hw.symm
    subst hw'
    go_wp2
    go_ret2
    exact ⟨rfl, below_drewN HB.out _⟩
  · have hi : sepI x = -1 := by unfold sepI; rw [if_neg hlt]
    rw [hi] at HA
    have HK : Hid (keyP x = trm x) := by
      unfold Hid keyP; rw [show sep x = x.size by omega, ByteArray.extract_zero_size]
    have HV : Hid (valP x = ByteArray.empty) := by
      unfold Hid valP; rw [show x.extract (sep x + 1) x.size = ByteArray.empty from ByteArray.size_eq_zero_iff.1 (by simp; omega), trm_empty]
    have HT1 : Hid (∀ w, Calls Try.prog 55 #[.string x] w fun e w' => e = .returned (.string (trm x)) ∧ w' = w) := fun w => ini_trim _ w (by unfold maxLen; omega)
    have HT2 : Hid (∀ w, Calls Try.prog 55 #[.string ByteArray.empty] w fun e w' => e = .returned (.string ByteArray.empty) ∧ w' = w) := fun w => (ini_trim ByteArray.empty w (Nat.zero_le _)).mono (fun e w' h => ⟨h.1.trans (by rw [trm_empty]), h.2⟩)
    go_enter Try.func52, Try.ntmps52
    go_wp2_with (go_at_call 61; refine HA.out.mono ?_)
    rintro e W' ⟨rfl, hb⟩
    have HB := hide hb
    clear hb
    go_wp2_with (go_at_call 55; refine (HT1.out _).mono ?_)
    rintro e w' ⟨rfl, hw⟩
    have hw' := hw.symm
    subst hw'
    go_wp2_with (go_at_call 55; refine (HT2.out _).mono ?_)
    rintro e w' ⟨rfl, hw⟩
    have hw' := hw.symm
    subst hw'
    go_wp2
    go_ret2
    exact ⟨ret2ss HK.out.symm HV.out.symm, HB.out⟩

set_option maxHeartbeats 1000000 in
theorem key_any (t : ByteArray) (e : Int) (W : World) (hs : t.size ≤ 1048576) : Calls Try.prog 40 #[.agg #[.string t, .int .u8 3, .int .u8 e]] W fun r W' => r = .returned (.string (keyT t)) ∧ Below W.heap.size W W' := by
  have hil := ind_le t
  have HI : Hid (∀ w, Calls Try.prog 53 #[.agg #[.string t, .int .u8 3, .int .u8 e]] w fun r w' => r = .returned (.int .i64 (ind t)) ∧ w' = w.alloc (.cells #[.string t, .int .u8 3, .int .u8 e] 38)) := fun w => lineIndent_any t 3 e w (by unfold maxLen; omega)
  have HS : Hid (∀ w, Calls Try.prog 52 #[.string (t.extract (ind t) t.size)] w fun r w' => r = .returned (.tuple #[.string (keyT t), .string (valT t)]) ∧ Below w.heap.size w w') := fun w => split_any _ w (by simp; omega)
  have hb1 : (0 : Int) ≤ (ind t : Int) := by omega
  have hb2 : (ind t : Int) ≤ (t.size : Int) := by omega
  have hb4 : ((ind t : Int)).toNat = ind t := by omega
  have HB0 : Hid (∀ n, Below W.heap.size W (((W.alloc (.cells #[.string t, .int .u8 3, .int .u8 e] 38)).alloc (.cells #[.string t, .int .u8 3, .int .u8 e] 38)).drewN n)) := fun n => below_drewN (((Below.refl _ W).alloc (Nat.le_refl _) _).alloc (by simp) _) n
  go_enter Try.func40, Try.ntmps40
  go_wp2
  go_region_with (first | (go_at_call 53; refine (HI.out _).mono ?_; rintro e w' ⟨rfl, rfl⟩) | (go_at_call 52; refine (HS.out _).mono ?_; rintro e w' ⟨rfl, hb⟩; have HB := hide hb; clear hb))
  all_goals
    go_wp2
    go_ret
    exact ⟨rfl, (HB0.out _).trans (HB.out.mono (HB0.out 0).size)⟩

set_option maxHeartbeats 1000000 in
theorem value_entry (t : ByteArray) (e : Int) (W : World) (hs : t.size ≤ 1048576) : Calls Try.prog 43 #[.agg #[.string t, .int .u8 3, .int .u8 e]] W fun r W' => r = .returned (.string (valT t)) ∧ Below W.heap.size W W' := by
  have hil := ind_le t
  have HI : Hid (∀ w, Calls Try.prog 53 #[.agg #[.string t, .int .u8 3, .int .u8 e]] w fun r w' => r = .returned (.int .i64 (ind t)) ∧ w' = w.alloc (.cells #[.string t, .int .u8 3, .int .u8 e] 38)) := fun w => lineIndent_any t 3 e w (by unfold maxLen; omega)
  have HS : Hid (∀ w, Calls Try.prog 52 #[.string (t.extract (ind t) t.size)] w fun r w' => r = .returned (.tuple #[.string (keyT t), .string (valT t)]) ∧ Below w.heap.size w w') := fun w => split_any _ w (by simp; omega)
  have hb1 : (0 : Int) ≤ (ind t : Int) := by omega
  have hb2 : (ind t : Int) ≤ (t.size : Int) := by omega
  have hb4 : ((ind t : Int)).toNat = ind t := by omega
  have HB0 : Hid (∀ n, Below W.heap.size W (((W.alloc (.cells #[.string t, .int .u8 3, .int .u8 e] 38)).alloc (.cells #[.string t, .int .u8 3, .int .u8 e] 38)).drewN n)) := fun n => below_drewN (((Below.refl _ W).alloc (Nat.le_refl _) _).alloc (by simp) _) n
  go_enter Try.func43, Try.ntmps43
  go_wp2
  go_region_with (first | (go_at_call 53; refine (HI.out _).mono ?_; rintro e w' ⟨rfl, rfl⟩) | (go_at_call 52; refine (HS.out _).mono ?_; rintro e w' ⟨rfl, hb⟩; have HB := hide hb; clear hb))
  all_goals
    go_wp2
    go_ret
    exact ⟨rfl, (HB0.out _).trans (HB.out.mono (HB0.out 0).size)⟩

theorem value_cont (t : ByteArray) (e : Int) (W : World) (hs : t.size ≤ 1048576) : Calls Try.prog 43 #[.agg #[.string t, .int .u8 4, .int .u8 e]] W fun r W' => r = .returned (.string (trm t)) ∧ Below W.heap.size W W' := by
  have HT := hide (fun w => ini_trim t w (show t.size ≤ maxLen by unfold maxLen; omega))
  have HB0 : Hid (Below W.heap.size W (W.alloc (.cells #[.string t, .int .u8 4, .int .u8 e] 38))) := (Below.refl _ W).alloc (Nat.le_refl _) _
  go_enter Try.func43, Try.ntmps43
  go_wp2_with (go_at_call 55; refine (HT.out _).mono ?_; rintro e w' ⟨rfl, hw⟩; have hw' := hw.symm; subst hw')
  go_ret
  exact ⟨rfl, HB0.out⟩
end Go.Proofs.Qxb6603539a.Ds

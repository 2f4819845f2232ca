import Derived.Test.Qxb6603539aProg
import Derived.WalkKit
import Derived.WalkSpells
import Derived.Test.Qxb6603539aStr
namespace Go.Proofs.Qxb6603539a.Ds
open Go.RowKit

theorem ini_blank (c : Int) (w : World) : Calls Try.prog 64 #[.int .u8 c] w fun e w' => e = .returned (.bool (isBl c)) ∧ w' = w := by
  by_cases h1 : c = 32
  · subst h1
    go_enter Try.func64, Try.ntmps64
    go_wp2
    go_ret
    exact ⟨rfl, rfl⟩
  · by_cases h2 : c = 9
    · subst h2
      go_enter Try.func64, Try.ntmps64
      go_wp2
      go_ret
      exact ⟨rfl, rfl⟩
    · have t1 : (c == 32) = false := by simpa using h1
      have t2 : (c == 9) = false := by simpa using h2
      have HB : Hid (isBl c = false) := by simp [Hid, isBl, h1, h2]
      go_enter Try.func64, Try.ntmps64
      go_wp2
      go_ret
      exact ⟨ret_bool HB.out.symm, rfl⟩

set_option maxHeartbeats 400000 in
theorem ini_indent (s : ByteArray) (w : World) (hs : s.size ≤ maxLen) : Calls Try.prog 62 #[.string s] w fun e w' => e = .returned (.int .i64 (ind s)) ∧ w' = w := by
  unfold maxLen at hs
  have hle := ind_le s
  go_enter Try.func62, Try.ntmps62
  go_wp2
  go_loop [3] (fun t => ∃ k : Nat, k ≤ ind s ∧ t = .int .i64 k) (fun t => s.size - (intOf t).toNat)
  case atStart => exact ⟨0, Nat.zero_le _, rfl⟩
  case round =>
    obtain ⟨k, hk, rfl⟩ := hrel
    by_cases hlt : k < s.size
    · have hB := fun w => ini_blank ((s[k]'hlt).toNat : Int) w
      rw [bt_eq] at hB
      rcases Bool.eq_false_or_eq_true (isBl (bt s k)) with hb | hb
      · have HK : Hid (k < ind s) := by
          rw [Hid]
          by_cases e : k = ind s
          · have := ind_end s (by omega); rw [← e, hb] at this; cases this
          · omega
        rw [hb] at hB
        rw [← bt_eq s k hlt] at hB
        have HBB := hide hB
        clear hB hb
        go_wp2_with (go_at_call 64; refine (HBB.out _).mono ?_; rintro e w' ⟨rfl, hw⟩; have hw' := hw.symm; subst hw')
        go_round
        case rel => exact ⟨k + 1, by have := HK.out; omega, by go_num⟩
        case measure => simp [intOf]; omega
      · have HK : Hid (k = ind s) := by
          rw [Hid]
          by_cases e : k < ind s
          · have := ind_in s k e; rw [hb] at this; cases this
          · omega
        rw [hb] at hB
        rw [← bt_eq s k hlt] at hB
        have HBB := hide hB
        clear hB hb
        go_wp2_with (go_at_call 64; refine (HBB.out _).mono ?_; rintro e w' ⟨rfl, hw⟩; have hw' := hw.symm; subst hw')
        go_ret
        exact ⟨ret_int (by rw [← HK.out]), rfl⟩
    · have HK : Hid (k = ind s) := by rw [Hid]; omega
      go_wp2_with fail
      go_ret
      exact ⟨ret_int (by rw [← HK.out]), rfl⟩

set_option maxHeartbeats 1000000 in
theorem ini_trim (s : ByteArray) (w : World) (hs : s.size ≤ maxLen) : Calls Try.prog 55 #[.string s] w fun e w' => e = .returned (.string (trm s)) ∧ w' = w := by
  unfold maxLen at hs
  have hle := ind_le s
  go_enter Try.func55, Try.ntmps55
  go_wp2
  go_loop [3] (fun t => ∃ k : Nat, k ≤ ind s ∧ t = .int .i64 k) (fun t => s.size - (intOf t).toNat)
  case atStart => exact ⟨0, Nat.zero_le _, rfl⟩
  case round =>
    obtain ⟨k, hk, rfl⟩ := hrel
    by_cases hlt : k < s.size ∧ k < ind s
    · obtain ⟨hlt, hki⟩ := hlt
      have hB := fun w => ini_blank ((s[k]'hlt).toNat : Int) w
      have hb : isBl ((s[k]'hlt).toNat : Int) = true := by rw [bt_eq]; exact ind_in s k hki
      rw [hb] at hB
      have HBB := hide hB
      clear hB hb
      go_wp2_with (go_at_call 64; refine (HBB.out _).mono ?_; rintro e w' ⟨rfl, hw⟩; have hw' := hw.symm; subst hw')
      go_round
      case rel => exact ⟨k + 1, by omega, by go_num⟩
      case measure => simp [intOf]; omega
    · have hki : k = ind s := by omega
      have HKI := hide hki
      have hkn : k ≤ s.size := by omega
      have HBN : Hid (∀ (h : k < s.size) w, Calls Try.prog 64 #[.int .u8 ((s[k]'h).toNat : Int)] w fun e w' => e = .returned (.bool false) ∧ w' = w) := fun h w => by
        have := ini_blank ((s[k]'h).toNat : Int) w
        have hb : isBl ((s[k]'h).toNat : Int) = false := by rw [bt_eq]; subst hki; exact ind_end s h
        rw [hb] at this; exact this
      clear hlt hki hk hle
      by_cases hlt : k < s.size
      all_goals
        go_wp2_with (go_at_call 64; refine (HBN.out (by omega) _).mono ?_; rintro e w' ⟨rfl, hw⟩; have hw' := hw.symm; subst hw')
        go_loop [4] (fun t => ∃ j : Nat, k ≤ j ∧ j ≤ s.size ∧ t = .int .i64 j ∧ Hid (endOf s k j = endOf s k s.size)) (fun t => (intOf t).toNat)
        case atStart => exact ⟨s.size, by omega, Nat.le_refl _, rfl, rfl⟩
        case round =>
          obtain ⟨j, hj1, hj2, rfl, HJ⟩ := hrel
          by_cases hj : k < j
          · try (exfalso; omega)
            all_goals
              have hjs : j - 1 < s.size := by omega
              have hB := fun w => ini_blank ((s[j - 1]'hjs).toNat : Int) w
              rw [bt_eq] at hB
              rcases Bool.eq_false_or_eq_true (isBl (bt s (j - 1))) with hb | hb
              · have HN : Hid (endOf s k (j - 1) = endOf s k s.size) := (endOf_step hj hb).trans HJ.out
                rw [hb, ← bt_eq s (j - 1) hjs] at hB
                have HBB := hide hB
                clear hB hb
                go_wp2_with (go_at_call 64; refine (HBB.out _).mono ?_; rintro e w' ⟨rfl, hw⟩; have hw' := hw.symm; subst hw')
                go_round
                case rel => exact ⟨j - 1, by omega, by omega, by go_num, HN⟩
                case measure => simp [intOf]; omega
              · have HN : Hid (j = endOf s k s.size) := by
                  rw [Hid, ← HJ.out, endOf_stop (by rw [hb]; simp)]
                rw [hb, ← bt_eq s (j - 1) hjs] at hB
                have HBB := hide hB
                clear hB hb
                go_wp2_with (go_at_call 64; refine (HBB.out _).mono ?_; rintro e w' ⟨rfl, hw⟩; have hw' := hw.symm; subst hw')
                go_ret
                exact ⟨ret_str (by rw [trm, ← HKI.out, ← HN.out]), rfl⟩
          · have HN : Hid (j = endOf s k s.size) := by
              rw [Hid, ← HJ.out, endOf_stop (fun h => hj h.1)]
            go_wp2_with fail
            go_ret
            exact ⟨ret_str (by rw [trm, ← HKI.out, ← HN.out]), rfl⟩
end Go.Proofs.Qxb6603539a.Ds

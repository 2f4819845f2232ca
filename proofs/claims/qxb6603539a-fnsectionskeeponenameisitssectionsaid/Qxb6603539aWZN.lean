/-
  zzHeaderName: the header's name, read by hand: the same name.
-/
import Derived.Test.Qxb6603539aWHead
import Derived.Test.Qxb6603539aWStrZ
namespace Go.Proofs.Qxb6603539a.Ds
open Go.RowKit

theorem ne_f {x c : Int} (h : x = c) : (x != c) = false := by subst h; simp
theorem ne_t {x c : Int} (h : x ≠ c) : (x != c) = true := by simpa using h

set_option maxHeartbeats 4000000 in
theorem zz_name (t : ByteArray) (w : World) (ht : t.size ≤ maxLen) (hin : ind t < t.size) : Calls Try.prog 31 #[.string t] w fun e w' => e = .returned (.string (nameOf t)) ∧ w' = w := by
  have HM : Hid (t.size ≤ maxLen) := ht
  rw [nameOf_in hin]
  unfold maxLen at ht
  have HI := hide (fun w => zz_indent t w HM.out)
  have h1 : (ind t : Int) + 1 ≤ t.size := by omega
  have h2 : ¬ (t.size : Int) < (ind t : Int) + 1 := by omega
  have h3 : (0 : Int) ≤ (ind t : Int) + 1 := by omega
  have h4 : ((ind t : Int) + 1).toNat = ind t + 1 := by omega
  have h5 : IntKind.i64.wrap ((ind t : Int) + 1) = (ind t : Int) + 1 := IntWalk.i64_in _ (by omega)
  have HSZ : Hid ((t.extract (ind t + 1) t.size).size ≤ t.size) := by rw [Hid]; simp
  go_enter Try.func31, Try.ntmps31
  go_wp2_with (go_at_call 36; refine (HI.out _).mono ?_; rintro e w' ⟨rfl, hw⟩; have hw' := hw.symm; subst hw')
  obtain ⟨s, hs⟩ : ∃ s, t.extract (ind t + 1) t.size = s := ⟨_, rfl⟩
  rw [hs] at HSZ ⊢
  have hle := fst_le s 93
  have hsz := HSZ.out
  have HF := hide (fst_in s 93)
  have HE := hide (fst_end s 93)
  have HN0 := hide (fun h => hnm_none (s := s) h)
  have HNG := hide (fun h => hnm_good (s := s) h)
  have HNB := hide (fun h => hnm_bad (s := s) h)
  obtain ⟨f, hfe⟩ : ∃ f, fst s 93 = f := ⟨_, rfl⟩
  rw [hfe] at hle HF HE HN0 HNG HNB
  have HS := hide hs
  clear hs hfe HI h1 h2 h3 h4 h5 HSZ
  go_loop [5, 6] (fun te tj => ∃ j : Nat, j ≤ f ∧ te = .int .i64 (-1) ∧ tj = .int .i64 j) (fun _ tj => s.size - (intOf tj).toNat)
  case atStart => exact ⟨0, Nat.zero_le _, rfl, rfl⟩
  case round =>
    obtain ⟨j, hj, rfl, rfl⟩ := hrel
    by_cases hjf : j < f
    · have hjs : j < s.size := by omega
      have hb := HF.out j hjf
      rw [← bt_eq s j hjs] at hb
      have t1 : (((s[j]'hjs).toNat : Int) == 93) = false := by simpa using hb
      clear hb
      go_wp2
      go_round
      case rel => exact ⟨j + 1, by omega, rfl, by go_num⟩
      case measure => simp [intOf]; omega
    · obtain rfl : j = f := by omega
      clear hjf hj
      by_cases hf : j < s.size
      · have hb := HE.out hf
        rw [← bt_eq s j hf] at hb
        have t1 : (((s[j]'hf).toNat : Int) == 93) = true := by simpa using hb
        have HD : Hid (∀ w, Calls Try.prog 36 #[.string (s.extract (j + 1) s.size)] w fun e w' => e = .returned (.int .i64 (ind (s.extract (j + 1) s.size))) ∧ w' = w) := fun w => zz_indent _ w (by have := HM.out; unfold maxLen at *; simp; omega)
        have hil := ind_le (s.extract (j + 1) s.size)
        have HT : Hid (∀ w, Calls Try.prog 41 #[.string (s.extract 0 j)] w fun e w' => e = .returned (.string (trm (s.extract 0 j))) ∧ w' = w) := fun w => zz_trim _ w (by have := HM.out; unfold maxLen at *; simp; omega)
        clear hb
        obtain ⟨r, hr⟩ : ∃ r, aft s j = r := ⟨_, rfl⟩
        rw [hr] at HNG HNB
        unfold aft at hr
        by_cases hz : r.size = 0
        · have he := emp_yes hz
          have HR : Hid (hnm s = trm (s.extract 0 j)) := HNG.out hf (by omega)
          clear hz
          go_wp2_with (first | (go_at_call 36; refine (HD.out _).mono ?_; rintro e w' ⟨rfl, hw⟩; have hw' := hw.symm; subst hw') | (go_at_call 41; refine (HT.out _).mono ?_; rintro e w' ⟨rfl, hw⟩; have hw' := hw.symm; subst hw'))
          go_ret
          exact ⟨ret_str (by rw [HS.out]; exact HR.out.symm), rfl⟩
        · have hp : 0 < r.size := by omega
          have he := emp_no hp
          have hb0 := bt_eq r 0 hp
          by_cases h1 : bt r 0 = 59
          · have HR : Hid (hnm s = trm (s.extract 0 j)) := HNG.out hf (by omega)
            have t2 : (((r[0]'hp).toNat : Int) != 59) = false := ne_f (hb0.trans h1)
            clear hz hb0 h1
            go_wp2_with (first | (go_at_call 36; refine (HD.out _).mono ?_; rintro e w' ⟨rfl, hw⟩; have hw' := hw.symm; subst hw') | (go_at_call 41; refine (HT.out _).mono ?_; rintro e w' ⟨rfl, hw⟩; have hw' := hw.symm; subst hw'))
            go_ret
            exact ⟨ret_str (by rw [HS.out]; exact HR.out.symm), rfl⟩
          · by_cases h2 : bt r 0 = 35
            · have HR : Hid (hnm s = trm (s.extract 0 j)) := HNG.out hf (by omega)
              have t2 : (((r[0]'hp).toNat : Int) != 59) = true := ne_t (by rw [hb0]; exact h1)
              have t3 : (((r[0]'hp).toNat : Int) != 35) = false := ne_f (hb0.trans h2)
              clear hz hb0 h1 h2
              go_wp2_with (first | (go_at_call 36; refine (HD.out _).mono ?_; rintro e w' ⟨rfl, hw⟩; have hw' := hw.symm; subst hw') | (go_at_call 41; refine (HT.out _).mono ?_; rintro e w' ⟨rfl, hw⟩; have hw' := hw.symm; subst hw'))
              go_ret
              exact ⟨ret_str (by rw [HS.out]; exact HR.out.symm), rfl⟩
            · have HR : Hid (hnm s = ByteArray.empty) := HNB.out hf hp h1 h2
              have t2 : (((r[0]'hp).toNat : Int) != 59) = true := ne_t (by rw [hb0]; exact h1)
              have t3 : (((r[0]'hp).toNat : Int) != 35) = true := ne_t (by rw [hb0]; exact h2)
              clear hz hb0 h1 h2
              go_wp2_with (first | (go_at_call 36; refine (HD.out _).mono ?_; rintro e w' ⟨rfl, hw⟩; have hw' := hw.symm; subst hw') | (go_at_call 41; refine (HT.out _).mono ?_; rintro e w' ⟨rfl, hw⟩; have hw' := hw.symm; subst hw'))
              go_ret
              exact ⟨ret_str (by rw [HS.out]; exact HR.out.symm), rfl⟩
      · have HR : Hid (hnm s = ByteArray.empty) := HN0.out hf
        go_wp2
        go_ret
        exact ⟨ret_str (by rw [HS.out]; exact HR.out.symm), rfl⟩
end Go.Proofs.Qxb6603539a.Ds

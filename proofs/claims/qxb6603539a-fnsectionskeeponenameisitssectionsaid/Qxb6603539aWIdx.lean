import Derived.Test.Qxb6603539aWF3
import Derived.Test.Qxb6603539aIdx
import Derived.Test.Qxb6603539aRep
import Derived.Test.Qxb6603539aWAny2
import Derived.Test.Qxb6603539aWKey
namespace Go.Proofs.Qxb6603539a.Ds
open Go.RowKit

theorem beq_bytes (a b : ByteArray) : (a.toList == b.toList) = decide (a = b) := by
  by_cases h : a = b
  · subst h; simp
  · have : a.toList ≠ b.toList := fun e => h (by
      rw [ByteArray.toList_eq, ByteArray.toList_eq] at e
      obtain ⟨a⟩ := a; obtain ⟨b⟩ := b
      congr 1
      exact Array.toList_inj.1 e)
    simp [h, this]

set_option maxHeartbeats 1000000 in
theorem secIndex_any (base : Nat) (W : World) (v : Value) (S : List Sc) (b : Nat → Value) (nm : ByteArray) (h : W.ownsRow base 75 2 v S.length (pairs (fun i => .string (sat S i).nm) b S.length)) (hn : S.length ≤ 3000000000000) :
    Calls Try.prog 25 #[v, .string nm] W fun e W' => e = .returned (.int .i64 (if sidx S nm < S.length then (sidx S nm : Int) else -1)) ∧ W' = W := by
  obtain ⟨ao, cp, rfl⟩ := own_slice h
  have HI := hide (fun i => @sidx_before _ nm i : ∀ i, i < sidx S nm → _)
  have HH := hide (@sidx_hit _ nm : sidx S nm < S.length → _)
  have HO := hide (own_at h)
  have hle := sidx_le S nm
  obtain ⟨q, hq⟩ : ∃ q, sidx S nm = q := ⟨_, rfl⟩
  rw [hq] at HI HH hle ⊢
  obtain ⟨n, hnn⟩ : ∃ n, S.length = n := ⟨_, rfl⟩
  have HP0 : Hid (∀ i, i < n → (pairs (fun i => .string (sat S i).nm) b S.length)[i * 2]? = some (.string (sat S i).nm)) := fun i hi => by rw [pairs_0 _ _ _ _ (by rw [hnn]; exact hi)]
  generalize pairs (fun i => .string (sat S i).nm) b S.length = ps at HO HP0 h
  rw [hnn] at HO hn hle HH ⊢
  clear h hq hnn
  go_enter Try.func25, Try.ntmps25
  go_wp2
  go_loop [5] (fun ti => ∃ i : Nat, i ≤ q ∧ ti = .int .i64 i) (fun ti => n - (intOf ti).toNat)
  case atStart => exact ⟨0, Nat.zero_le _, rfl⟩
  case round =>
    obtain ⟨i, hiq, rfl⟩ := hrel
    by_cases hlt : i < n
    · obtain ⟨g, cp', hv, -, -, -, -, hc, -⟩ := HO.out (by omega)
      obtain ⟨rfl, -, rfl⟩ := Value.slice.inj hv
      have u0 := (hc (i * 2) (by omega)).trans (HP0.out i hlt)
      have HQ : Hid (i < q → (sat S i).nm ≠ nm) := HI.out i
      have HQ2 : Hid (i = q → (sat S i).nm = nm) := fun e => by have := HH.out (by omega); rw [e]; exact this
      have hbq := beq_bytes (sat S i).nm nm
      generalize (sat S i).nm = x at u0 HQ HQ2 hbq
      clear hc hv
      by_cases hi2 : i < q
      · rw [decide_eq_false (HQ.out hi2)] at hbq
        go_wp2
        go_round
        case rel => exact ⟨i + 1, by omega, by go_num⟩
        case measure => simp [intOf]; omega
      · obtain rfl : i = q := by omega
        rw [decide_eq_true (HQ2.out rfl)] at hbq
        go_wp2
        go_ret
        exact ⟨ret_int rfl, rfl⟩
    · obtain rfl : i = n := by omega
      obtain rfl : q = i := by omega
      go_wp2
      go_ret
      exact ⟨ret_int rfl, rfl⟩

set_option maxHeartbeats 1000000 in
theorem keyIndex_any (base : Nat) (W : World) (v : Value) (K : List Ky) (b : Nat → Value) (nm : ByteArray) (h : W.ownsRow base 80 2 v K.length (pairs (fun i => .string (kat K i).nm) b K.length)) (hn : K.length ≤ 3000000000000) :
    Calls Try.prog 33 #[v, .string nm] W fun e W' => e = .returned (.int .i64 (if kidx K nm < K.length then (kidx K nm : Int) else -1)) ∧ W' = W := by
  obtain ⟨ao, cp, rfl⟩ := own_slice h
  have HI := hide (fun i => @kidx_before _ nm i : ∀ i, i < kidx K nm → _)
  have HH := hide (@kidx_hit _ nm : kidx K nm < K.length → _)
  have HO := hide (own_at h)
  have hle := kidx_le K nm
  obtain ⟨q, hq⟩ : ∃ q, kidx K nm = q := ⟨_, rfl⟩
  rw [hq] at HI HH hle ⊢
  obtain ⟨n, hnn⟩ : ∃ n, K.length = n := ⟨_, rfl⟩
  have HP0 : Hid (∀ i, i < n → (pairs (fun i => .string (kat K i).nm) b K.length)[i * 2]? = some (.string (kat K i).nm)) := fun i hi => by rw [pairs_0 _ _ _ _ (by rw [hnn]; exact hi)]
  generalize pairs (fun i => .string (kat K i).nm) b K.length = ps at HO HP0 h
  rw [hnn] at HO hn hle HH ⊢
  clear h hq hnn
  go_enter Try.func33, Try.ntmps33
  go_wp2
  go_loop [5] (fun ti => ∃ i : Nat, i ≤ q ∧ ti = .int .i64 i) (fun ti => n - (intOf ti).toNat)
  case atStart => exact ⟨0, Nat.zero_le _, rfl⟩
  case round =>
    obtain ⟨i, hiq, rfl⟩ := hrel
    by_cases hlt : i < n
    · obtain ⟨g, cp', hv, -, -, -, -, hc, -⟩ := HO.out (by omega)
      obtain ⟨rfl, -, rfl⟩ := Value.slice.inj hv
      have u0 := (hc (i * 2) (by omega)).trans (HP0.out i hlt)
      have HQ : Hid (i < q → (kat K i).nm ≠ nm) := HI.out i
      have HQ2 : Hid (i = q → (kat K i).nm = nm) := fun e => by have := HH.out (by omega); rw [e]; exact this
      have hbq := beq_bytes (kat K i).nm nm
      generalize (kat K i).nm = x at u0 HQ HQ2 hbq
      clear hc hv
      by_cases hi2 : i < q
      · rw [decide_eq_false (HQ.out hi2)] at hbq
        go_wp2
        go_round
        case rel => exact ⟨i + 1, by omega, by go_num⟩
        case measure => simp [intOf]; omega
      · obtain rfl : i = q := by omega
        rw [decide_eq_true (HQ2.out rfl)] at hbq
        go_wp2
        go_ret
        exact ⟨ret_int rfl, rfl⟩
    · obtain rfl : i = n := by omega
      obtain rfl : q = i := by omega
      go_wp2
      go_ret
      exact ⟨ret_int rfl, rfl⟩

set_option maxHeartbeats 1000000 in
theorem zz_key (t : ByteArray) (w : World) (ht : t.size ≤ 1048576) : Calls Try.prog 32 #[.string t] w fun e w' => e = .returned (.string (keyT t)) ∧ w' = w := by
  have hil := ind_le t
  have HI := hide (fun w => zz_indent t w (by unfold maxLen; omega))
  have HK : Hid (keyT t = keyP (t.extract (ind t) t.size)) := rfl
  have HXS : Hid ((t.extract (ind t) t.size).size ≤ 1048576) := by unfold Hid; simp; omega
  have hb1 : (0 : Int) ≤ (ind t : Int) := by omega
  have hb2 : (ind t : Int) ≤ (t.size : Int) := by omega
  have hb4 : ((ind t : Int)).toNat = ind t := by omega
  go_enter Try.func32, Try.ntmps32
  go_wp2_with (go_at_call 36; refine (HI.out _).mono ?_; rintro e w' ⟨rfl, hw⟩; have hw' := hw.symm; subst hw')
  obtain ⟨x, hx⟩ : ∃ x, t.extract (ind t) t.size = x := ⟨_, rfl⟩
  have hxz : t.size - ind t = x.size := by rw [← hx]; simp
  rw [hx] at HK HXS ⊢
  rw [hxz]
  clear hx hxz hb1 hb2 hb4 hil HI
  have HKP : Hid (keyP x = trm (x.extract 0 (sep x))) := rfl
  have HSI := hide (sep_in x)
  have HSH := hide (sep_hit x)
  have hsl := sep_le x
  have hxs := HXS.out
  obtain ⟨q, hq⟩ : ∃ q, sep x = q := ⟨_, rfl⟩
  rw [hq] at HKP HSI HSH hsl
  clear hq
  have HT : Hid (∀ w, Calls Try.prog 41 #[.string (x.extract 0 q)] w fun e w' => e = .returned (.string (trm (x.extract 0 q))) ∧ w' = w) := fun w => zz_trim _ w (by unfold maxLen; simp; omega)
  have HT2 : Hid (q = x.size → ∀ w, Calls Try.prog 41 #[.string x] w fun e w' => e = .returned (.string (trm (x.extract 0 q))) ∧ w' = w) := fun e w => by have := HT.out w; rw [e, ByteArray.extract_zero_size] at this ⊢; exact this
  go_loop [4, 5] (fun te tj => ∃ j : Nat, j ≤ q ∧ te = .int .i64 (x.size : Nat) ∧ tj = .int .i64 j) (fun _ tj => x.size - (intOf tj).toNat)
  case atStart => exact ⟨0, Nat.zero_le _, rfl, rfl⟩
  case round =>
    obtain ⟨j, hj, rfl, rfl⟩ := hrel
    by_cases hjq : j < q
    · have hjs : j < x.size := by omega
      have hb := HSI.out j hjq
      rw [← bt_eq x j hjs] at hb
      have t1 : (((x[j]'hjs).toNat : Int) == 61) = false := by simpa using hb.1
      have t2 : (((x[j]'hjs).toNat : Int) == 58) = false := by simpa using hb.2
      have hj0 : (j : Int) < (x.size : Int) := by omega
      have hj1 : (0 : Int) ≤ (j : Int) := by omega
      clear hb
      go_wp2
      go_round
      case rel => exact ⟨j + 1, by omega, rfl, by go_num⟩
      case measure => simp [intOf]; omega
    · obtain rfl : j = q := by omega
      clear hjq hj
      by_cases hf : j < x.size
      · have hb := HSH.out hf
        rw [← bt_eq x j hf] at hb
        have hj0 : (j : Int) < (x.size : Int) := by omega
        have hj1 : (0 : Int) ≤ (j : Int) := by omega
        have hj2 : (j : Int) ≤ (x.size : Int) := by omega
        rcases hb with hb | hb
        · have t1 : (((x[j]'hf).toNat : Int) == 61) = true := by simpa using hb
          clear hb
          go_wp2_with (go_at_call 41; refine (HT.out _).mono ?_; rintro e w' ⟨rfl, hw⟩; have hw' := hw.symm; subst hw')
          go_ret
          exact ⟨ret_str (by rw [HK.out, HKP.out]), rfl⟩
        · have t1 : (((x[j]'hf).toNat : Int) == 61) = false := by rw [hb]; rfl
          have t2 : (((x[j]'hf).toNat : Int) == 58) = true := by simpa using hb
          clear hb
          go_wp2_with (go_at_call 41; refine (HT.out _).mono ?_; rintro e w' ⟨rfl, hw⟩; have hw' := hw.symm; subst hw')
          go_ret
          exact ⟨ret_str (by rw [HK.out, HKP.out]), rfl⟩
      · have HT3 := hide (HT2.out (by omega))
        go_wp2_with (go_at_call 41; refine (HT3.out _).mono ?_; rintro e w' ⟨rfl, hw⟩; have hw' := hw.symm; subst hw')
        go_ret
        exact ⟨ret_str (by rw [HK.out, HKP.out]), rfl⟩
end Go.Proofs.Qxb6603539a.Ds

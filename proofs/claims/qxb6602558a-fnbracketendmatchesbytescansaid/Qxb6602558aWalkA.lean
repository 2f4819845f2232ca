import Derived.Test.Qxb6602558aProg
import Derived.WalkKit
import Derived.WalkSpells
import Derived.Lib.BytesEntry
import Derived.Test.Qxb6602558aIndex
import Derived.Test.Qxb6602558aWalkB
namespace Go.Proofs.Qxb6602558a.Br
open Go.RowKit

theorem hide {p : Prop} (h : p) : Hid p := h

/-- bytes.IndexByte at a slice whose cells are known. -/
theorem index_any (b o n c : Nat) (xs : List Int) (cv : Int) (w : World) (hx : xs.length = n) (hc : ∀ i, i < n → w.cell? ⟨b, o + i, none⟩ = some (.int .u8 (xs.getD i 0))) :
    Calls Try.prog 38 #[.slice (some ⟨b, o, none⟩) n c, .int .u8 cv] w fun e w' => e = .returned (.int .i64 (Lib.indexByte (Lib.bytesOf xs) cv.toNat.toUInt8)) ∧ w' = w := by
  go_enter Try.func38, Try.ntmps38
  go_wp2
  rw [run_callFunc_extern Try.func44 (by kernel_rfl) (by kernel_rfl) (by kernel_rfl) (e := Extern.BytealgIndexByte.indexByte) (by kernel_rfl), Lib.run_indexByteSlice w b o n c xs hx hc cv]
  simp only [Result.andThen]
  rw [Oper.upon_value]
  go_wp2
  go_ret
  exact ⟨rfl, rfl⟩

theorem par_eq (t : Nat) (d : Int) : ((-1 : Int), d, true, decide (t % 2 = 1)) = ((-1 : Int), d, true, ((t : Int) % 2 == 1)) := by
  have : decide (t % 2 = 1) = ((t : Int) % 2 == 1) := by
    by_cases h : t % 2 = 1
    · have : (t : Int) % 2 = 1 := by omega
      simp [h, this]
    · have : ¬ (t : Int) % 2 = 1 := by omega
      simp [h, this]
  rw [this]
theorem ret2 {a a' : Int} {q : Bool} (h : a = a') : Ending.returned (.tuple #[.int .i64 a, .bool q]) = Ending.returned (.tuple #[.int .i64 a', .bool q]) := by rw [h]

set_option maxHeartbeats 1000000 in
theorem rest_any (b n i0 : Nat) (xs : List Int) (w : World) (hx : xs.length = n) (hn : n ≤ 1048576) (hi : i0 ≤ n) (hb : Byt xs) (hc : ∀ i, i < n → w.cell? ⟨b, i, none⟩ = some (.int .u8 (xs.getD i 0))) :
    Calls Try.prog 29 #[.slice (some ⟨b, 0, none⟩) n n, .int .i64 i0] w fun e w' => (∃ (k : Nat), e = .returned (.tuple #[.int .i64 k, .bool false]) ∧ i0 < k ∧ k ≤ n ∧ ∀ d, scan (xs.drop i0) i0 d true false = scan (xs.drop k) k d false false) ∧ w' = w ∨
      (∃ (q : Bool), e = .returned (.tuple #[.int .i64 (-1), .bool q]) ∧ ∀ d, scan (xs.drop i0) i0 d true false = (-1, d, true, q)) ∧ w' = w := by
  go_enter Try.func29, Try.ntmps29
  go_wp2
  go_loop [1] (fun t => ∃ k : Nat, i0 ≤ k ∧ k ≤ n ∧ t = .int .i64 k ∧ Hid (∀ d, scan (xs.drop i0) i0 d true false = scan (xs.drop k) k d true false)) (fun t => n - (intOf t).toNat)
  case atStart => exact ⟨i0, Nat.le_refl _, hi, rfl, fun _ => rfl⟩
  case round =>
    obtain ⟨k, hk0, hk, rfl, HR⟩ := hrel
    by_cases hkn : k < n
    · have hcd : ∀ i, i < n - k → w.cell? ⟨b, k + i, none⟩ = some (.int .u8 ((xs.drop k).getD i 0)) := fun i h => by
        rw [hc (k + i) (by omega)]; simp [List.getD]
      have hxl : (xs.drop k).length = n - k := by simp [hx]
      have hbd : Byt (xs.drop k) := fun c h => hb c (List.mem_of_mem_drop h)
      have hI := index_any b k (n - k) (n - k) (xs.drop k) 34 w hxl hcd
      by_cases hneg : Lib.indexByte (Lib.bytesOf (xs.drop k)) (34 : Int).toNat.toUInt8 < 0
      · have hm1 : Lib.indexByte (Lib.bytesOf (xs.drop k)) (34 : Int).toNat.toUInt8 = -1 := by have := Lib.indexByte_ge (Lib.bytesOf (xs.drop k)) (34 : Int).toNat.toUInt8; omega
        rw [hm1] at hI
        have hno := index_none hneg
        have hT := trailing_any b k (n - k) (n - k) (xs.drop k) w hxl (by omega) hcd
        have hend := rest_none hno
        obtain ⟨t, ht⟩ : ∃ t, trail (xs.drop k) = t := ⟨_, rfl⟩
        rw [ht] at hT hend
        have HI := hide hI
        have HT := hide hT
        have HE := hide hend
        have htl : t ≤ n := by rw [← ht]; have := trail_le (xs.drop k); omega
        clear hI hT hm1 hneg hno hcd hbd hc ht hend
        go_wp2_with (first | (go_at_call 38; refine HI.out.mono ?_; rintro e w' ⟨rfl, hw⟩; have hw' := hw.symm; subst hw') | (go_at_call 39; refine HT.out.mono ?_; rintro e w' ⟨rfl, hw⟩; have hw' := hw.symm; subst hw'))
        go_ret2
        exact .inr ⟨⟨_, rfl, fun d => (HR.out d).trans ((HE.out d).trans (par_eq t d))⟩, rfl⟩
      · obtain ⟨q, hq, hql, hqc, hqn⟩ := index_some hbd (by omega) hneg
        rw [hq] at hI
        have hcd2 : ∀ i, i < q → w.cell? ⟨b, k + i, none⟩ = some (.int .u8 (((xs.drop k).take q).getD i 0)) := fun i h => by
          rw [hcd i (by omega)]; simp [List.getD, h]
        have hT := trailing_any b k q (n - k) ((xs.drop k).take q) w (by simp; omega) (by omega) hcd2
        have hqc' : xs.getD (k + q) 0 = 34 := by rw [← hqc]; simp [List.getD]
        have hev := rest_even (xs := xs) (i := k) (q := q) (by omega) hqc' hqn
        have hod := rest_odd (xs := xs) (i := k) (q := q) (by omega) hqc' hqn
        obtain ⟨t, ht⟩ : ∃ t, trail ((xs.drop k).take q) = t := ⟨_, rfl⟩
        rw [ht] at hT hev hod
        have HI := hide hI
        have HT := hide hT
        have htl : t ≤ n := by rw [← ht]; have := trail_le ((xs.drop k).take q); simp at this; omega
        have hqn2 : k + q < n := by omega
        clear hI hT hneg hcd hbd hc ht hq hql hqc hqn hcd2 hqc'
        by_cases hp : t % 2 = 0
        · have HE := hide (hev hp)
          have hp' : ((t : Int) % 2 == 0) = true := by simp; omega
          clear hev hod hp
          go_wp2_with (first | (go_at_call 38; refine HI.out.mono ?_; rintro e w' ⟨rfl, hw⟩; have hw' := hw.symm; subst hw') | (go_at_call 39; refine HT.out.mono ?_; rintro e w' ⟨rfl, hw⟩; have hw' := hw.symm; subst hw'))
          go_ret2
          exact .inl ⟨⟨k + q + 1, ret2 (by omega), by omega, by omega, fun d => (HR.out d).trans (HE.out d)⟩, rfl⟩
        · have HE := hide (hod hp)
          have hp' : ((t : Int) % 2 == 0) = false := by simp; omega
          clear hev hod hp
          go_wp2_with (first | (go_at_call 38; refine HI.out.mono ?_; rintro e w' ⟨rfl, hw⟩; have hw' := hw.symm; subst hw') | (go_at_call 39; refine HT.out.mono ?_; rintro e w' ⟨rfl, hw⟩; have hw' := hw.symm; subst hw'))
          go_round
          case rel => exact ⟨k + q + 1, by omega, by omega, by go_num, fun d => (HR.out d).trans (HE.out d)⟩
          case measure => simp [intOf]; omega
    · have hkn' : k = n := by omega
      subst hkn'
      have hnil : xs.drop k = [] := List.drop_eq_nil_of_le (by omega)
      have hno : ∀ c ∈ xs.drop k, c ≠ 34 := by rw [hnil]; simp
      have hend := rest_none hno
      rw [hnil, trail_nil] at hend
      rw [hnil] at HR
      have HI := hide (index_any b 0 0 0 [] 34 w rfl (by simp))
      have HT := hide (trailing_any b 0 0 0 [] w rfl (by omega) (by simp))
      have HE := hide hend
      clear hend hno hnil
      go_wp2_with (first | (go_at_call 38; refine HI.out.mono ?_; rintro e w' ⟨rfl, hw⟩; have hw' := hw.symm; subst hw') | (go_at_call 39; refine HT.out.mono ?_; rintro e w' ⟨rfl, hw⟩; have hw' := hw.symm; subst hw'))
      go_ret2
      exact .inr ⟨⟨_, rfl, fun d => (HR.out d).trans (HE.out d)⟩, rfl⟩
end Go.Proofs.Qxb6602558a.Br

import Derived.Test.Qxb6603146aProg
import Derived.WalkKit
import Derived.WalkSpells
import Derived.Lib.BytesEntry
import Derived.Test.Qxb6603146aPlain
namespace Go.Proofs.Qxb6603146a.Ad
open Go.RowKit

theorem ret_int {k : IntKind} {a b : Int} (h : a = b) : Ending.returned (.int k a) = .returned (.int k b) := by rw [h]

/-- bytes.IndexByte at a slice whose cells are known. -/
theorem index_any (b o n c : Nat) (xs : List Int) (cv : Int) (w : World) (hx : xs.length = n) (hc : ∀ i, i < n → w.cell? ⟨b, o + i, none⟩ = some (.int .u8 (xs.getD i 0))) :
    Calls Try.prog 30 #[.slice (some ⟨b, o, none⟩) n c, .int .u8 cv] w fun e w' => e = .returned (.int .i64 (Lib.indexByte (Lib.bytesOf xs) cv.toNat.toUInt8)) ∧ w' = w := by
  go_enter Try.func30, Try.ntmps30
  go_wp2
  rw [run_callFunc_extern Try.func31 (by kernel_rfl) (by kernel_rfl) (by kernel_rfl) (e := Extern.BytealgIndexByte.indexByte) (by kernel_rfl), Lib.run_indexByteSlice w b o n c xs hx hc cv]
  simp only [Result.andThen]
  rw [Oper.upon_value]
  go_wp2
  go_ret
  exact ⟨rfl, rfl⟩

/-- indexFrom, inside the text. -/
theorem from_any (b n p f : Nat) (xs : List Int) (cv : Int) (w : World) (hx : xs.length = n) (hn : n ≤ 1048576) (hp : p < n) (hb : Byt xs) (hcv : 0 ≤ cv ∧ cv ≤ 255) (hf : Fst xs p cv f) (hc : ∀ i, i < n → w.cell? ⟨b, i, none⟩ = some (.int .u8 (xs.getD i 0))) :
    Calls Try.prog 29 #[.slice (some ⟨b, 0, none⟩) n n, .int .i64 p, .int .u8 cv] w fun e w' => e = .returned (.int .i64 f) ∧ w' = w := by
  have hcd : ∀ i, i < n - p → w.cell? ⟨b, p + i, none⟩ = some (.int .u8 ((xs.drop p).getD i 0)) := fun i h => by
    rw [hc (p + i) (by omega)]; simp [List.getD]
  have hxl : (xs.drop p).length = n - p := by simp [hx]
  have hbd : Byt (xs.drop p) := fun c h => hb c (List.mem_of_mem_drop h)
  have hI := index_any b p (n - p) (n - p) (xs.drop p) cv w hxl hcd
  by_cases hneg : Lib.indexByte (Lib.bytesOf (xs.drop p)) cv.toNat.toUInt8 < 0
  · have hm1 : Lib.indexByte (Lib.bytesOf (xs.drop p)) cv.toNat.toUInt8 = -1 := by have := Lib.indexByte_ge (Lib.bytesOf (xs.drop p)) cv.toNat.toUInt8; omega
    rw [hm1] at hI
    have HF := hide (hf.of_none (index_none hneg))
    have HI := hide hI
    clear hI hm1 hneg hcd hbd hc hf
    go_enter Try.func29, Try.ntmps29
    go_wp2_with (go_at_call 30; refine HI.out.mono ?_; rintro e w' ⟨rfl, hw⟩; have hw' := hw.symm; subst hw')
    go_ret
    exact ⟨ret_int (by rw [HF.out, hx]), rfl⟩
  · obtain ⟨q, hq, hql, hqc, hqn⟩ := index_some hbd hcv hneg
    rw [hq] at hI
    have HF := hide (hf.of_some hql hqc hqn)
    have HI := hide hI
    have hq2 : p + q < n := by omega
    clear hI hneg hcd hbd hc hf hq hqc hqn hql
    go_enter Try.func29, Try.ntmps29
    go_wp2_with (go_at_call 30; refine HI.out.mono ?_; rintro e w' ⟨rfl, hw⟩; have hw' := hw.symm; subst hw')
    go_ret
    exact ⟨ret_int (by rw [HF.out]; omega), rfl⟩

/-- zzFirstByte. -/
theorem first_any (b o n c p f : Nat) (xs : List Int) (cv : Int) (w : World) (hx : xs.length = n) (hn : n ≤ 1048576) (hf : Fst xs p cv f) (hc : ∀ i, i < n → w.cell? ⟨b, o + i, none⟩ = some (.int .u8 (xs.getD i 0))) :
    Calls Try.prog 14 #[.slice (some ⟨b, o, none⟩) n c, .int .i64 p, .int .u8 cv] w fun e w' => e = .returned (.int .i64 f) ∧ w' = w := by
  have hlo := hf.lo
  have hhi : f ≤ n := by rw [← hx]; exact hf.hi
  have HF := hide hf
  have HX := hide hx
  clear hf hx
  go_enter Try.func14, Try.ntmps14
  go_wp2
  go_loop [7] (fun t => ∃ k : Nat, p ≤ k ∧ k ≤ f ∧ t = .int .i64 k) (fun t => n - (intOf t).toNat)
  case atStart => exact ⟨p, Nat.le_refl _, hlo, rfl⟩
  case round =>
    obtain ⟨k, hk0, hk, rfl⟩ := hrel
    by_cases hlt : k < n
    · have hcell := hc k hlt
      obtain ⟨y, hy⟩ : ∃ y, xs.getD k 0 = y := ⟨_, rfl⟩
      rw [hy] at hcell
      by_cases hcy : y = cv
      · have hkf : k = f := by
          by_cases h : k < f
          · exact absurd (hy.trans hcy) (HF.out.miss k hk0 h)
          · omega
        have HK := hide hkf
        subst hcy
        clear hy hkf hc
        go_wp2
        go_ret
        exact ⟨ret_int (by rw [HK.out]), rfl⟩
      · have hkf : k < f := by
          by_cases h : k = f
          · exfalso; apply hcy; rw [← hy, h]; exact HF.out.hit (by rw [HX.out]; omega)
          · omega
        have t : (y == cv) = false := by simpa using hcy
        clear hy hc hcy
        go_wp2
        go_round
        case rel => exact ⟨k + 1, by omega, by omega, by go_num⟩
        case measure => simp [intOf]; omega
    · have HK : Hid (k = f) := by rw [Hid]; omega
      have hkn : k = n := by omega
      clear hc
      go_wp2
      go_ret
      exact ⟨ret_int (by rw [← HK.out]; omega), rfl⟩
end Go.Proofs.Qxb6603146a.Ad

import Derived.Test.Qxb6604140aWalkC
namespace Go.Proofs.Qxb6604140a.Cs
open Go.RowKit

theorem results_tmp4 {fn : Func} {t u v x : Tmp} (h : fn.results = #[.tmp t, .tmp u, .tmp v, .tmp x]) (tmps : Array Value) (P : Program) (w : World) :
    (results fn tmps).run P w = .ok (.tuple #[tmps.getD t undef, tmps.getD u undef, tmps.getD v undef, tmps.getD x undef]) w := by
  simp [results, h]

/-- IndexByte of LF in what is left from p on. -/
theorem index_lf (b n p f : Nat) (xs : List Int) (w : World) (hx : xs.length = n) (hb : Byt xs) (hp : p ≤ n) (hf : Fst xs p 10 f) (hc : ∀ i, i < n → w.cell? ⟨b, i, none⟩ = some (.int .u8 (xs.getD i 0))) :
    Calls Try.prog 31 #[.slice (some ⟨b, p, none⟩) (n - p) (n - p), .int .u8 10] w fun e w' => e = .returned (.int .i64 (if f < n then ((f - p : Nat) : Int) else -1)) ∧ w' = w := by
  have hcd : ∀ i, i < n - p → w.cell? ⟨b, p + i, none⟩ = some (.int .u8 ((xs.drop p).getD i 0)) := fun i h => by
    rw [hc (p + i) (by omega)]; simp [List.getD]
  have hxl : (xs.drop p).length = n - p := by simp [hx]
  have hbd : Byt (xs.drop p) := fun c h => hb c (List.mem_of_mem_drop h)
  refine (index_any b p (n - p) (n - p) (xs.drop p) 10 w hxl hcd).mono ?_
  rintro e w' ⟨rfl, rfl⟩
  refine ⟨ret_int ?_, rfl⟩
  by_cases hneg : Lib.indexByte (Lib.bytesOf (xs.drop p)) (10 : Int).toNat.toUInt8 < 0
  · have h1 := hf.of_none (index_none hneg)
    have := Lib.indexByte_ge (Lib.bytesOf (xs.drop p)) (10 : Int).toNat.toUInt8
    rw [if_neg (by omega)]; omega
  · obtain ⟨q, hq, hql, hqc, hqn⟩ := index_some hbd (by omega) hneg
    have h1 := hf.of_some hql hqc hqn
    rw [hq, if_pos (by omega)]; omega

set_option maxHeartbeats 1000000 in
/-- csvLine, inside the text, where a LF follows. -/
theorem csv_lf (b n p f e1 : Nat) (en : Bool) (xs : List Int) (w : World) (hx : xs.length = n) (hn : n ≤ 1048576) (hb : Byt xs) (hp : p < n) (hf : Fst xs p 10 f) (hfn : f < n) (hc : ∀ i, i < n → w.cell? ⟨b, i, none⟩ = some (.int .u8 (xs.getD i 0)))
    (he1 : (p < f ∧ xs.getD (f - 1) 0 = 13 ∧ e1 = f - 1) ∨ (¬ (p < f ∧ xs.getD (f - 1) 0 = 13) ∧ e1 = f)) :
    Calls Try.prog 28 #[.slice (some ⟨b, 0, none⟩) n n, .int .i64 p, .bool en] w fun e w' => e = .returned (.tuple #[.slice (some ⟨b, p, none⟩) (e1 - p) (n - p), .int .i64 ((f : Int) + 1), .bool true, .bool true]) ∧ w' = w := by
  have hI := index_lf b n p f xs w hx hb (by omega) hf hc
  rw [if_pos hfn] at hI
  have hlo := hf.lo
  have HI := hide hI
  have HC := hide hc
  clear hI hc hf
  obtain ⟨d, rfl⟩ : ∃ d, f = p + d := ⟨f - p, by omega⟩
  rw [Nat.add_sub_cancel_left] at HI
  rcases he1 with ⟨h1, h2, rfl⟩ | ⟨h1, rfl⟩
  · obtain ⟨k, rfl⟩ : ∃ k, d = k + 1 := ⟨d - 1, by omega⟩
    have c0 := HC.out (p + k) (by omega)
    rw [show p + (k + 1) - 1 = p + k by omega] at h2
    rw [h2] at c0
    have w1 : IntKind.i64.wrap (((k + 1 : Nat) : Int) - 1) = (k : Int) := by rw [IntWalk.i64_in _ (by omega)]; omega
    have w2 : ((k : Int) + 1 - 1) = (k : Int) := by omega
    have ek : p + (k + 1) - 1 - p = k := by omega
    rw [ek]
    clear h1 h2 HC
    go_enter Try.func28, Try.ntmps28
    go_wp2_with (go_at_call 31; refine HI.out.mono ?_; rintro e w' ⟨rfl, hw⟩; have hw' := hw.symm; subst hw')
    refine bodyPost_ret (results_tmp4 rfl _ _ _) rfl ?_
    exact ⟨rfl, rfl⟩
  · have ek : p + d - p = d := by omega
    rw [ek]
    rcases d with _ | k
    · clear h1 HC
      go_enter Try.func28, Try.ntmps28
      go_wp2_with (go_at_call 31; refine HI.out.mono ?_; rintro e w' ⟨rfl, hw⟩; have hw' := hw.symm; subst hw')
      refine bodyPost_ret (results_tmp4 rfl _ _ _) rfl ?_
      exact ⟨rfl, rfl⟩
    · have c0 := HC.out (p + k) (by omega)
      have hne : xs.getD (p + k) 0 ≠ 13 := fun h => h1 ⟨by omega, by rw [show p + (k + 1) - 1 = p + k by omega]; exact h⟩
      obtain ⟨y, hy⟩ : ∃ y, xs.getD (p + k) 0 = y := ⟨_, rfl⟩
      rw [hy] at c0 hne
      have t0 : (y == 13) = false := by simpa using hne
      have w1 : IntKind.i64.wrap (((k + 1 : Nat) : Int) - 1) = (k : Int) := by rw [IntWalk.i64_in _ (by omega)]; omega
      have w2 : ((k : Int) + 1 - 1) = (k : Int) := by omega
      clear h1 HC hy hne
      go_enter Try.func28, Try.ntmps28
      go_wp2_with (go_at_call 31; refine HI.out.mono ?_; rintro e w' ⟨rfl, hw⟩; have hw' := hw.symm; subst hw')
      refine bodyPost_ret (results_tmp4 rfl _ _ _) rfl ?_
      exact ⟨rfl, rfl⟩
set_option maxHeartbeats 1000000 in
/-- csvLine, inside the text, where no LF follows, at the input's end. -/
theorem csv_end (b n p e1 : Nat) (xs : List Int) (w : World) (hx : xs.length = n) (hn : n ≤ 1048576) (hb : Byt xs) (hp : p < n) (hf : Fst xs p 10 n) (hc : ∀ i, i < n → w.cell? ⟨b, i, none⟩ = some (.int .u8 (xs.getD i 0)))
    (he1 : (p < n ∧ xs.getD (n - 1) 0 = 13 ∧ e1 = n - 1) ∨ (¬ (p < n ∧ xs.getD (n - 1) 0 = 13) ∧ e1 = n)) :
    Calls Try.prog 28 #[.slice (some ⟨b, 0, none⟩) n n, .int .i64 p, .bool true] w fun e w' => e = .returned (.tuple #[.slice (some ⟨b, p, none⟩) (e1 - p) (n - p), .int .i64 n, .bool false, .bool true]) ∧ w' = w := by
  have hI := index_lf b n p n xs w hx hb (by omega) hf hc
  rw [if_neg (Nat.lt_irrefl n)] at hI
  have HI := hide hI
  have HC := hide hc
  clear hI hc hf
  obtain ⟨d, rfl⟩ : ∃ d, n = p + d := ⟨n - p, by omega⟩
  have hdd : p + d - p = d := by omega
  rw [hdd] at HI ⊢
  rcases he1 with ⟨h1, h2, rfl⟩ | ⟨h1, rfl⟩
  · obtain ⟨k, rfl⟩ : ∃ k, d = k + 1 := ⟨d - 1, by omega⟩
    have c0 := HC.out (p + k) (by omega)
    rw [show p + (k + 1) - 1 = p + k by omega] at h2
    rw [h2] at c0
    have w1 : IntKind.i64.wrap (((k + 1 : Nat) : Int) - 1) = (k : Int) := by rw [IntWalk.i64_in _ (by omega)]; omega
    have w2 : ((k : Int) + 1 - 1) = (k : Int) := by omega
    have ek : p + (k + 1) - 1 - p = k := by omega
    rw [ek]
    clear h1 h2 HC
    go_enter Try.func28, Try.ntmps28
    go_wp2_with (go_at_call 31; refine HI.out.mono ?_; rintro e w' ⟨rfl, hw⟩; have hw' := hw.symm; subst hw')
    refine bodyPost_ret (results_tmp4 rfl _ _ _) rfl ?_
    exact ⟨rfl, rfl⟩
  · have ek : p + d - p = d := by omega
    rw [ek]
    rcases d with _ | k
    · exact absurd hp (by omega)
    · have c0 := HC.out (p + k) (by omega)
      have hne : xs.getD (p + k) 0 ≠ 13 := fun h => h1 ⟨by omega, by rw [show p + (k + 1) - 1 = p + k by omega]; exact h⟩
      obtain ⟨y, hy⟩ : ∃ y, xs.getD (p + k) 0 = y := ⟨_, rfl⟩
      rw [hy] at c0 hne
      have t0 : (y == 13) = false := by simpa using hne
      have w1 : IntKind.i64.wrap (((k + 1 : Nat) : Int) - 1) = (k : Int) := by rw [IntWalk.i64_in _ (by omega)]; omega
      have w2 : ((k : Int) + 1 - 1) = (k : Int) := by omega
      clear h1 HC hy hne
      go_enter Try.func28, Try.ntmps28
      go_wp2_with (go_at_call 31; refine HI.out.mono ?_; rintro e w' ⟨rfl, hw⟩; have hw' := hw.symm; subst hw')
      refine bodyPost_ret (results_tmp4 rfl _ _ _) rfl ?_
      exact ⟨rfl, rfl⟩

set_option maxHeartbeats 1000000 in
theorem csv_part (b n p : Nat) (xs : List Int) (w : World) (hx : xs.length = n) (hb : Byt xs) (hp : p < n) (hf : Fst xs p 10 n) (hc : ∀ i, i < n → w.cell? ⟨b, i, none⟩ = some (.int .u8 (xs.getD i 0))) :
    Calls Try.prog 28 #[.slice (some ⟨b, 0, none⟩) n n, .int .i64 p, .bool false] w fun e w' => e = .returned (.tuple #[.slice none 0 0, .int .i64 0, .bool false, .bool false]) ∧ w' = w := by
  have hI := index_lf b n p n xs w hx hb (by omega) hf hc
  rw [if_neg (Nat.lt_irrefl n)] at hI
  have HI := hide hI
  clear hI hc hf
  go_enter Try.func28, Try.ntmps28
  go_wp2_with (go_at_call 31; refine HI.out.mono ?_; rintro e w' ⟨rfl, hw⟩; have hw' := hw.symm; subst hw')
  refine bodyPost_ret (results_tmp4 rfl _ _ _) rfl ?_
  exact ⟨rfl, rfl⟩
#print axioms csv_lf
end Go.Proofs.Qxb6604140a.Cs

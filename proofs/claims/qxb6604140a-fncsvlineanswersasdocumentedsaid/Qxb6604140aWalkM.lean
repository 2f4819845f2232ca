import Derived.Test.Qxb6604140aWalkL
namespace Go.Proofs.Qxb6604140a.Cs
open Go.RowKit

theorem index_zero (ao : Option Addr) (h : ∀ x, ao = some x → x = ⟨x.block, x.off, none⟩) (w : World) : Calls Try.prog 31 #[.slice ao 0 0, .int .u8 10] w fun e w' => e = .returned (.int .i64 (-1)) ∧ w' = w := by
  rcases ao with _ | x
  · go_enter Try.func31, Try.ntmps31
    go_wp2
    rw [run_callFunc_extern Try.func33 (by kernel_rfl) (by kernel_rfl) (by kernel_rfl) (e := Extern.BytealgIndexByte.indexByte) (by kernel_rfl), Lib.run_indexByteNil]
    simp only [Result.andThen]
    rw [Oper.upon_value]
    go_wp2
    go_ret
    exact ⟨rfl, rfl⟩
  · rw [h x rfl]
    refine (index_any x.block x.off 0 0 [] 10 w rfl (fun i hi => absurd hi (Nat.not_lt_zero _))).mono ?_
    rintro e w' ⟨rfl, rfl⟩
    exact ⟨rfl, rfl⟩

/-- csvLine at the end of data. -/
theorem csv_last (ao : Option Addr) (b n : Nat) (w : World) (hn : n ≤ 1048576) (ha : ao = some ⟨b, 0, none⟩ ∨ (ao = none ∧ n = 0)) : Calls Try.prog 28 #[.slice ao n n, .int .i64 n, .bool true] w fun e w' => e = .returned (.tuple #[.slice ao 0 0, .int .i64 n, .bool false, .bool true]) ∧ w' = w := by
  have HI := hide (index_zero ao (fun x hx => by rcases ha with h | ⟨h, _⟩ <;> (rw [h] at hx; cases hx); rfl) w)
  rcases ha with rfl | ⟨rfl, rfl⟩
  · go_enter Try.func28, Try.ntmps28
    go_wp2_with (go_at_call 31; refine HI.out.mono ?_; rintro e w' ⟨rfl, hw⟩; have hw' := hw.symm; subst hw')
    refine bodyPost_ret (results_tmp4 rfl _ _ _) rfl ?_
    exact ⟨rfl, rfl⟩
  · go_enter Try.func28, Try.ntmps28
    go_wp2_with (go_at_call 31; refine HI.out.mono ?_; rintro e w' ⟨rfl, hw⟩; have hw' := hw.symm; subst hw')
    refine bodyPost_ret (results_tmp4 rfl _ _ _) rfl ?_
    exact ⟨rfl, rfl⟩
theorem csv_wait (ao : Option Addr) (b n : Nat) (w : World) (hn : n ≤ 1048576) (ha : ao = some ⟨b, 0, none⟩ ∨ (ao = none ∧ n = 0)) : Calls Try.prog 28 #[.slice ao n n, .int .i64 n, .bool false] w fun e w' => e = .returned (.tuple #[.slice none 0 0, .int .i64 0, .bool false, .bool false]) ∧ w' = w := by
  have HI := hide (index_zero ao (fun x hx => by rcases ha with h | ⟨h, _⟩ <;> (rw [h] at hx; cases hx); rfl) w)
  rcases ha with rfl | ⟨rfl, rfl⟩
  · go_enter Try.func28, Try.ntmps28
    go_wp2_with (go_at_call 31; refine HI.out.mono ?_; rintro e w' ⟨rfl, hw⟩; have hw' := hw.symm; subst hw')
    refine bodyPost_ret (results_tmp4 rfl _ _ _) rfl ?_
    exact ⟨rfl, rfl⟩
  · go_enter Try.func28, Try.ntmps28
    go_wp2_with (go_at_call 31; refine HI.out.mono ?_; rintro e w' ⟨rfl, hw⟩; have hw' := hw.symm; subst hw')
    refine bodyPost_ret (results_tmp4 rfl _ _ _) rfl ?_
    exact ⟨rfl, rfl⟩
end Go.Proofs.Qxb6604140a.Cs

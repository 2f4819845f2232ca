import Derived.Test.Qxb6604140aWalkM
namespace Go.Proofs.Qxb6604140a.Cs
open Go.RowKit

/-- ZZcsvLine passes on what csvLine answers. -/
theorem zz_pass (a p e : Value) (r0 r1 r2 r3 : Value) (w : World) (h : Calls Try.prog 28 #[a, p, e] w fun x w' => x = .returned (.tuple #[r0, r1, r2, r3]) ∧ w' = w) :
    Calls Try.prog 16 #[a, p, e] w fun x w' => x = .returned (.tuple #[r0, r1, r2, r3]) ∧ w' = w := by
  have HI := hide h
  clear h
  go_enter Try.func16, Try.ntmps16
  go_wp2_with (go_at_call 28; refine HI.out.mono ?_; rintro e w' ⟨rfl, hw⟩; have hw' := hw.symm; subst hw')
  refine bodyPost_ret (results_tmp4 rfl _ _ _) rfl ?_
  exact ⟨rfl, rfl⟩

theorem zzBytes_in (ao : Option Addr) (n c : Nat) (p : Int) (en : Bool) (w : World) (hn : n ≤ 1048576) : Calls Try.prog 14 #[.slice ao n c, .int .i64 p, .bool en] w fun x w' => x = .returned (.bool true) ∧ w' = w := by
  go_enter Try.func14, Try.ntmps14
  go_wp2
  go_ret
  exact ⟨rfl, rfl⟩
end Go.Proofs.Qxb6604140a.Cs

/-
  zzSameLines on two files that hold the same lines: true.
-/
import Derived.Test.Qxb6603539aFmtWZB
namespace Go.Proofs.Qxb6603539aFmt.Ds
open Go.RowKit

set_option maxHeartbeats 2000000 in
theorem same_any (a1 a2 : Option Addr) (b1 b2 n c1 c2 : Nat) (ls : List Ln) (w : World) (hl : ls.length = n) (hn : n ≤ 1048576) (h1 : Lies w b1 a1 ls) (h2 : Lies w b2 a2 ls) :
    Calls Tryf.prog 11 #[.slice a1 n c1, .slice a2 n c2] w fun e w' => e = .returned (.bool true) ∧ Below w.heap.size w w' := by
  have H1 := hide h1
  have H2 := hide h2
  clear h1 h2
  go_enter Tryf.func11, Tryf.ntmps11
  go_wp2
  go_loopw [5] (fun ti wr => ∃ (i : Nat), i ≤ n ∧ ti = .int .i64 i ∧ Hid (∃ m, wr = w.drewN m)) (fun ti _ => n - (intOf ti).toNat)
  case atStart => exact ⟨0, Nat.zero_le _, rfl, ⟨0, rfl⟩⟩
  case round =>
    obtain ⟨i, hin, rfl, HW⟩ := hrel
    have hcl : Hid (∀ p, wr.cell? p = w.cell? p) := fun p => by obtain ⟨m, rfl⟩ := HW.out; rfl
    by_cases hlt : i < n
    · obtain rfl := H1.out.ao (by omega)
      obtain rfl := H2.out.ao (by omega)
      have u0 := (hcl.out _).trans (H1.out.c0 i (by omega))
      have u1 := (hcl.out _).trans (H1.out.c1 i (by omega))
      have u2 := (hcl.out _).trans (H1.out.c2 i (by omega))
      have v0 := (hcl.out _).trans (H2.out.c0 i (by omega))
      have v1 := (hcl.out _).trans (H2.out.c1 i (by omega))
      have v2 := (hcl.out _).trans (H2.out.c2 i (by omega))
      obtain ⟨⟨t, k, e⟩, hli⟩ : ∃ l, at' ls i = l := ⟨_, rfl⟩
      rw [hli] at u0 u1 u2 v0 v1 v2
      simp only at u0 u1 u2 v0 v1 v2
      clear hli
      have hi1 : (i : Int) < (n : Int) := by omega
      have hi0 : (0 : Int) ≤ (i : Int) := by omega
      go_wp2
      go_quiet (fail)
      go_wp2
      go_roundw
      case rel => exact ⟨i + 1, by omega, by go_num, by obtain ⟨m, rfl⟩ := HW.out; exact ⟨m + nq, by rw [World.drewN_drewN]⟩⟩
      case measure => simp [intOf]; omega
    · obtain rfl : i = n := by omega
      go_wp2
      go_ret
      exact ⟨rfl, by obtain ⟨m, rfl⟩ := HW.out; exact ⟨rfl, rfl, rfl, Nat.le_refl _, fun _ _ => rfl⟩⟩
#print axioms same_any
end Go.Proofs.Qxb6603539aFmt.Ds

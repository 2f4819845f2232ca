import Derived.Test.Qxb6603539aFmtProg
import Derived.WalkKit
import Derived.WalkSpells
import Derived.Test.Qxb6603539aFmtLines
namespace Go.Proofs.Qxb6603539aFmt.Ds
open Go.RowKit

set_option maxHeartbeats 1000000 in
theorem ent_any (m b n cap i : Nat) (ao : Option Addr) (ls : List Ln) (w : World) (hn : ls.length = n) (hnb : n ≤ 1048576) (hi : i ≤ n) (hL : Lies w b ao ls) (hc1 : w.cell? ⟨m, 1, none⟩ = some (.slice ao n cap)) :
    Calls Tryf.prog 18 #[.pointer (some ⟨m, 0, none⟩), .int .i64 i] w fun e w' => e = .returned (.int .i64 (entB ls i)) ∧ w' = w := by
  go_enter Tryf.func18, Tryf.ntmps18
  go_wp2
  go_loop [1] (fun t => ∃ k : Nat, k ≤ i ∧ t = .int .i64 ((k : Int) - 1) ∧ Hid (entB ls k = entB ls i)) (fun t => (intOf t + 1).toNat)
  case atStart => exact ⟨i, Nat.le_refl _, rfl, rfl⟩
  case round =>
    obtain ⟨k, hk, rfl, HR⟩ := hrel
    by_cases hk0 : k = 0
    · subst hk0
      clear hL hc1
      go_wp2
      go_ret
      exact ⟨ret_int HR.out, rfl⟩
    · obtain ⟨j, rfl⟩ : ∃ j, k = j + 1 := ⟨k - 1, by omega⟩
      obtain rfl := hL.ao (by omega)
      have hcj := hL.c1 j (by omega)
      obtain ⟨x, hx⟩ : ∃ x, (at' ls j).k = x := ⟨_, rfl⟩
      rw [hx] at hcj
      have HX := hide hx
      have hjj : (((j + 1 : Nat) : Int) - 1) = (j : Int) := by omega
      rw [hjj]
      clear hx hL hjj
      go_wp2
      · have hx3 : (x == 3) = true := by assumption
        go_ret
        exact ⟨ret_int (by rw [← HR.out, entB_hit (by rw [HX.out]; simpa using hx3)]), rfl⟩
      · have hx0 : (x == 0) = true := by assumption
        go_round
        case rel => exact ⟨j, by omega, rfl, by rw [Hid, ← HR.out, entB_on (by rw [HX.out]; left; simpa using hx0)]⟩
        case measure => simp [intOf]; try omega
      · have hx0 : (x == 1) = true := by assumption
        go_round
        case rel => exact ⟨j, by omega, rfl, by rw [Hid, ← HR.out, entB_on (by rw [HX.out]; right; left; simpa using hx0)]⟩
        case measure => simp [intOf]; try omega
      · have hx0 : (x == 4) = true := by assumption
        go_round
        case rel => exact ⟨j, by omega, rfl, by rw [Hid, ← HR.out, entB_on (by rw [HX.out]; right; right; simpa using hx0)]⟩
        case measure => simp [intOf]; try omega
      · have hx3 : (x == 3) = false := by assumption
        have hx0 : (x == 0) = false := by assumption
        have hx1 : (x == 1) = false := by assumption
        have hx4 : (x == 4) = false := by assumption
        go_ret
        simp only [beq_eq_false_iff_ne] at hx3 hx0 hx1 hx4
        exact ⟨ret_int (by rw [← HR.out, entB_stop (by rw [HX.out]; exact hx3) (by rw [HX.out]; omega)]), rfl⟩
end Go.Proofs.Qxb6603539aFmt.Ds

import Derived.Test.Qxb6602558aProg
import Derived.WalkKit
import Derived.WalkSpells
import Derived.Test.Qxb6602558aPlain
namespace Go.Proofs.Qxb6602558a.Br
open Go.RowKit

theorem ret_int {k : IntKind} {a b : Int} (h : a = b) : Ending.returned (.int k a) = .returned (.int k b) := by rw [h]
theorem trail_step {ys : List Int} {k n : Nat} (hy : ys.length = n) (hk : k < n) (hc : ys[n - 1 - k]?.getD 0 = 92) : k + 1 + trail (ys.take (n - (k + 1))) = k + trail (ys.take (n - k)) := by
  have e : n - k = (n - (k + 1)) + 1 := by omega
  have hl : n - (k + 1) < ys.length := by omega
  rw [e, List.take_succ_eq_append_getElem hl, trail_snoc]
  have : ys[n - (k + 1)] = 92 := by
    have h2 : n - 1 - k = n - (k + 1) := by omega
    rw [h2] at hc; simpa [hl] using hc
  rw [if_pos this]; omega
theorem trail_stop {ys : List Int} {k n : Nat} (hy : ys.length = n) (hk : k < n) (hc : ¬ ys[n - 1 - k]?.getD 0 = 92) : trail (ys.take (n - k)) = 0 := by
  have e : n - k = (n - (k + 1)) + 1 := by omega
  have hl : n - (k + 1) < ys.length := by omega
  rw [e, List.take_succ_eq_append_getElem hl, trail_snoc]
  rw [if_neg]
  intro h; apply hc
  have h2 : n - 1 - k = n - (k + 1) := by omega
  rw [h2]; simp [hl, h]
theorem trail_le (ys : List Int) : trail ys ≤ ys.length := by
  unfold trail
  have := (List.takeWhile_sublist (fun c : Int => decide (c = 92)) (l := ys.reverse)).length_le
  simpa using this

set_option maxHeartbeats 400000 in
theorem trailing_any (b o n c : Nat) (ys : List Int) (w : World) (hy : ys.length = n) (hn : n ≤ 1048576) (hc : ∀ i, i < n → w.cell? ⟨b, o + i, none⟩ = some (.int .u8 (ys.getD i 0))) :
    Calls Try.prog 39 #[.slice (some ⟨b, o, none⟩) n c] w fun e w' => e = .returned (.int .i64 (trail ys)) ∧ w' = w := by
  go_enter Try.func39, Try.ntmps39
  go_wp2
  go_loop [3] (fun t => ∃ k : Nat, k ≤ n ∧ t = .int .i64 k ∧ k + trail (ys.take (n - k)) = trail ys) (fun t => n - (intOf t).toNat)
  case atStart => exact ⟨0, Nat.zero_le _, rfl, by rw [Nat.sub_zero, ← hy, List.take_length]; omega⟩
  case round =>
    obtain ⟨k, hk, rfl, hr⟩ := hrel
    have HR : Hid (k + trail (ys.take (n - k)) = trail ys) := hr
    clear hr
    by_cases hlt : k < n
    · have hcell := hc (n - 1 - k) (by omega)
      by_cases h9 : ys[n - 1 - k]?.getD 0 = 92
      · have HS := trail_step hy hlt h9
        have H2 : Hid (k + 1 + trail (ys.take (n - (k + 1))) = k + trail (ys.take (n - k))) := HS
        clear HS
        go_wp2
        go_round
        case rel => exact ⟨k + 1, by omega, by go_num, by rw [H2.out, HR.out]⟩
        case measure => simp [intOf]; omega
      · have HS : Hid (trail (ys.take (n - k)) = 0) := trail_stop hy hlt h9
        have h9' : (ys[n - 1 - k]?.getD 0 == 92) = false := by simpa using h9
        go_wp2
        go_ret
        exact ⟨ret_int (by have := HR.out; have := HS.out; omega), rfl⟩
    · go_wp2
      go_ret
      exact ⟨ret_int (by have h := HR.out; have : n - k = 0 := by omega
                         rw [this, List.take_zero, trail_nil] at h; omega), rfl⟩
end Go.Proofs.Qxb6602558a.Br

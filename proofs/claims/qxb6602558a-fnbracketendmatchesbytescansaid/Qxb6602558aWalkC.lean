import Derived.Test.Qxb6602558aProg
import Derived.WalkKit
import Derived.WalkSpells
import Derived.Test.Qxb6602558aPlain
namespace Go.Proofs.Qxb6602558a.Br
open Go.RowKit

theorem results_tmp4 {fn : Func} {t u v x : Tmp} (h : fn.results = #[.tmp t, .tmp u, .tmp v, .tmp x]) (tmps : Array Value) (P : Program) (w : World) :
    (results fn tmps).run P w = .ok (.tuple #[tmps.getD t undef, tmps.getD u undef, tmps.getD v undef, tmps.getD x undef]) w := by
  simp [results, h]

theorem ret4 {a b a' b' : Int} {c d c' d' : Bool} (h : (a, b, c, d) = (a', b', c', d')) : Ending.returned (.tuple #[.int .i64 a, .int .i64 b, .bool c, .bool d]) = Ending.returned (.tuple #[.int .i64 a', .int .i64 b', .bool c', .bool d']) := by
  simp only [Prod.mk.injEq] at h; obtain ⟨rfl, rfl, rfl, rfl⟩ := h; rfl

set_option maxHeartbeats 2000000 in
theorem scan_any (b o n c : Nat) (xs : List Int) (d0 : Int) (s0 e0 : Bool) (r1 r2 : Int) (r3 r4 : Bool) (w : World) (hx : xs.length = n) (hn : n ≤ 1048576) (hc : ∀ i, i < n → w.cell? ⟨b, o + i, none⟩ = some (.int .u8 (xs.getD i 0)))
    (HT : Hid (scan xs 0 d0 s0 e0 = (r1, r2, r3, r4))) :
    Calls Try.prog 12 #[.int .i64 d0, .bool s0, .bool e0, .slice (some ⟨b, o, none⟩) n c] w fun e w' => e = .returned (.tuple #[.int .i64 r1, .int .i64 r2, .bool r3, .bool r4]) ∧ w' = w := by
  go_enter Try.func12, Try.ntmps12
  go_wp2
  go_loop [0, 1, 2, 12] (fun td ts te ti => ∃ (k : Nat) (d : Int) (s e : Bool), k ≤ n ∧ td = .int .i64 d ∧ ts = .bool s ∧ te = .bool e ∧ ti = .int .i64 k ∧ Hid (scan (xs.drop k) k d s e = (r1, r2, r3, r4))) (fun _ _ _ t => n - (intOf t).toNat)
  case atStart => exact ⟨0, d0, s0, e0, Nat.zero_le _, rfl, rfl, rfl, rfl, HT⟩
  case round =>
    obtain ⟨k, d, s, e, hk, rfl, rfl, rfl, rfl, HR⟩ := hrel
    by_cases hlt : k < n
    · have hcell := hc k hlt
      obtain ⟨x, hxk⟩ : ∃ x, xs.getD k 0 = x := ⟨_, rfl⟩
      rw [hxk] at hcell
      have HX : Hid (xs.getD k 0 = x) := hxk
      have hkl : k < xs.length := by omega
      have HL : Hid (k < xs.length) := hkl
      clear hxk hc hkl
      cases s with
      | true =>
        cases e with
        | true =>
          have HN : Hid (scan (xs.drop (k + 1)) (k + 1) d true false = (r1, r2, r3, r4)) := by rw [Hid, ← in_esc HL.out]; exact HR.out
          go_wp2
          go_round
          case rel => exact ⟨k + 1, d, true, false, by omega, rfl, rfl, rfl, by go_num, HN⟩
          case measure => simp [intOf]; omega
        | false =>
          by_cases h9 : x = 92
          · have HN : Hid (scan (xs.drop (k + 1)) (k + 1) d true true = (r1, r2, r3, r4)) := by rw [Hid, ← in_bs HL.out (HX.out.trans h9)]; exact HR.out
            subst h9
            go_wp2
            go_round
            case rel => exact ⟨k + 1, d, true, true, by omega, rfl, rfl, rfl, by go_num, HN⟩
            case measure => simp [intOf]; omega
          · by_cases h3 : x = 34
            · have HN : Hid (scan (xs.drop (k + 1)) (k + 1) d false false = (r1, r2, r3, r4)) := by rw [Hid, ← in_q HL.out (HX.out.trans h3)]; exact HR.out
              subst h3
              go_wp2
              go_round
              case rel => exact ⟨k + 1, d, false, false, by omega, rfl, rfl, rfl, by go_num, HN⟩
              case measure => simp [intOf]; omega
            · have HN : Hid (scan (xs.drop (k + 1)) (k + 1) d true false = (r1, r2, r3, r4)) := by rw [Hid, ← in_other HL.out (by rw [HX.out]; exact h9) (by rw [HX.out]; exact h3)]; exact HR.out
              have t9 : (x == 92) = false := by simpa using h9
              have t3 : (x == 34) = false := by simpa using h3
              go_wp2
              go_round
              case rel => exact ⟨k + 1, d, true, false, by omega, rfl, rfl, rfl, by go_num, HN⟩
              case measure => simp [intOf]; omega
      | false =>
        by_cases h3 : x = 34
        · have HN : Hid (scan (xs.drop (k + 1)) (k + 1) d true e = (r1, r2, r3, r4)) := by rw [Hid, ← out_q HL.out (HX.out.trans h3)]; exact HR.out
          subst h3
          go_wp2
          go_round
          case rel => exact ⟨k + 1, d, true, e, by omega, rfl, rfl, rfl, by go_num, HN⟩
          case measure => simp [intOf]; omega
        have t3 : (x == 34) = false := by simpa using h3
        by_cases ho : x = 123 ∨ x = 91
        · have HN : Hid (scan (xs.drop (k + 1)) (k + 1) (wrap64 (d + 1)) false e = (r1, r2, r3, r4)) := by rw [Hid, ← out_open HL.out (by rw [HX.out]; exact ho)]; exact HR.out
          rcases ho with rfl | rfl
          all_goals
            go_wp2
            go_round
            case rel => exact ⟨k + 1, _, false, e, by omega, rfl, rfl, rfl, by go_num, HN⟩
            case measure => simp [intOf]; omega
        have t12 : (x == 123) = false := by simp; omega
        have t91 : (x == 91) = false := by simp; omega
        by_cases hcl : x = 125 ∨ x = 93
        · by_cases hd : wrap64 (d - 1) = 0
          · have HN : Hid ((((k + 1 : Nat) : Int), wrap64 (d - 1), false, e) = (r1, r2, r3, r4)) := by rw [Hid, ← out_end HL.out (by rw [HX.out]; exact hcl) hd]; exact HR.out
            have td : (wrap64 (d - 1) == 0) = true := by simpa using hd
            clear hd
            rcases hcl with rfl | rfl
            all_goals
              go_wp2
              refine bodyPost_ret (results_tmp4 rfl _ _ _) rfl ?_
              exact ⟨ret4 (by simpa using HN.out), rfl⟩
          · have HN : Hid (scan (xs.drop (k + 1)) (k + 1) (wrap64 (d - 1)) false e = (r1, r2, r3, r4)) := by rw [Hid, ← out_close HL.out (by rw [HX.out]; exact hcl) hd]; exact HR.out
            have td : (wrap64 (d - 1) == 0) = false := by simpa using hd
            clear hd
            rcases hcl with rfl | rfl
            all_goals
              go_wp2
              go_round
              case rel => exact ⟨k + 1, _, false, e, by omega, rfl, rfl, rfl, by go_num, HN⟩
              case measure => simp [intOf]; omega
        have t125 : (x == 125) = false := by simp; omega
        have t93 : (x == 93) = false := by simp; omega
        have HN : Hid (scan (xs.drop (k + 1)) (k + 1) d false e = (r1, r2, r3, r4)) := by rw [Hid, ← out_other HL.out (by rw [HX.out]; omega) (by rw [HX.out]; omega) (by rw [HX.out]; omega) (by rw [HX.out]; omega) (by rw [HX.out]; omega)]; exact HR.out
        clear ho hcl h3
        go_wp2
        go_round
        case rel => exact ⟨k + 1, d, false, e, by omega, rfl, rfl, rfl, by go_num, HN⟩
        case measure => simp [intOf]; omega
    · have HN : Hid ((-1, d, s, e) = (r1, r2, r3, r4)) := by rw [Hid, ← at_end (xs := xs) (k := k) (by omega)]; exact HR.out
      go_wp2
      refine bodyPost_ret (results_tmp4 rfl _ _ _) rfl ?_
      exact ⟨ret4 HN.out, rfl⟩
end Go.Proofs.Qxb6602558a.Br

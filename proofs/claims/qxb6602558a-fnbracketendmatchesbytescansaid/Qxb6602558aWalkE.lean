import Derived.Test.Qxb6602558aProg
import Derived.WalkKit
import Derived.WalkSpells
import Derived.Test.Qxb6602558aWalkA
import Derived.Test.Qxb6602558aWalkC
namespace Go.Proofs.Qxb6602558a.Br
open Go.RowKit

/-- The bracketMatch in block m holds the state (d, s, e). -/
def Mat (w : World) (m : Nat) (d : Int) (s e : Bool) : Prop := w.heap[m]? = some (.cells #[.int .i64 d, .bool s, .bool e] 49 (0, 0))
section
variable {w : World} {m : Nat} {d : Int} {s e : Bool}
theorem Mat.c0 (h : Mat w m d s e) : w.cell? ⟨m, 0, none⟩ = some (.int .i64 d) := by rw [cell_of_row w m 0 _ _ _ h]; rfl
theorem Mat.c1 (h : Mat w m d s e) : w.cell? ⟨m, 1, none⟩ = some (.bool s) := by rw [cell_of_row w m 1 _ _ _ h]; rfl
theorem Mat.c2 (h : Mat w m d s e) : w.cell? ⟨m, 2, none⟩ = some (.bool e) := by rw [cell_of_row w m 2 _ _ _ h]; rfl
theorem Mat.f (h : Mat w m d s e) (j : Nat) : w.frozen? ⟨m, j, none⟩ = false := frozen_of_row w m j _ _ h
theorem Mat.s0 (h : Mat w m d s e) (d' : Int) : Mat (w.setCell ⟨m, 0, none⟩ (.int .i64 d')) m d' s e := by
  have := heap_setCell_same w m 0 _ _ (.int .i64 d') h; exact this
theorem Mat.s1 (h : Mat w m d s e) (s' : Bool) : Mat (w.setCell ⟨m, 1, none⟩ (.bool s')) m d s' e := by
  have := heap_setCell_same w m 1 _ _ (.bool s') h; exact this
theorem Mat.s2 (h : Mat w m d s e) (e' : Bool) : Mat (w.setCell ⟨m, 2, none⟩ (.bool e')) m d s e' := by
  have := heap_setCell_same w m 2 _ _ (.bool e') h; exact this
end

theorem belset {m : Nat} {w wr : World} (h : Below m w wr) (j : Nat) (v : Value) : Below m w (wr.setCell ⟨m, j, none⟩ v) := h.setCell (Nat.le_refl _) v

theorem tup {a b a' b' : Int} {c d c' d' : Bool} (h : (a, b, c, d) = (a', b', c', d')) : a = a' ∧ b = b' ∧ c = c' ∧ d = d' := by simpa using h

set_option maxRecDepth 100000 in
set_option maxHeartbeats 4000000 in
theorem end_any (m b n : Nat) (xs : List Int) (d0 : Int) (s0 e0 : Bool) (r1 r2 : Int) (r3 r4 : Bool) (w : World) (hx : xs.length = n) (hn : n ≤ 1048576) (hb : Byt xs) (hbm : b < m) (hc : ∀ i, i < n → w.cell? ⟨b, i, none⟩ = some (.int .u8 (xs.getD i 0)))
    (hm : Mat w m d0 s0 e0) (hse : e0 = true → s0 = true) (HT : Hid (scan xs 0 d0 s0 e0 = (r1, r2, r3, r4))) :
    Calls Try.prog 25 #[.pointer (some ⟨m, 0, none⟩), .slice (some ⟨b, 0, none⟩) n n] w fun e w' => e = .returned (.int .i64 r1) ∧ Mat w' m r2 r3 r4 ∧ Below m w w' := by
  go_enter Try.func25, Try.ntmps25
  go_wp2
  go_loopw [5] (fun t wr => ∃ (k : Nat) (d : Int) (s e : Bool), k ≤ n ∧ t = .int .i64 k ∧ Hid (e = true → s = true) ∧ Mat wr m d s e ∧ Below m w wr ∧ Hid (scan (xs.drop k) k d s e = (r1, r2, r3, r4))) (fun t _ => n - (intOf t).toNat)
  case atStart => exact ⟨0, d0, s0, e0, Nat.zero_le _, rfl, hse, hm, Below.refl _ _, HT⟩
  case round =>
    obtain ⟨k, d, s, e, hk, rfl, HE, hM, hB, HR⟩ := hrel
    have hc0 := hM.c0
    have hc1 := hM.c1
    have hc2 := hM.c2
    have hf0 := hM.f 0
    have hf1 := hM.f 1
    have hf2 := hM.f 2
    have HM := hide hM
    clear hM hm
    by_cases hlt : k < n
    · have hcell : wr.cell? ⟨b, k, none⟩ = some (.int .u8 (xs.getD k 0)) := (hB.cell (by exact hbm)).trans (hc k hlt)
      obtain ⟨x, hxk⟩ : ∃ x, xs.getD k 0 = x := ⟨_, rfl⟩
      rw [hxk] at hcell
      have HX : Hid (xs.getD k 0 = x) := hxk
      have HL : Hid (k < xs.length) := by rw [Hid, hx]; exact hlt
      clear hxk
      cases s with
      | true =>
        cases e with
        | true =>
          have HN : Hid (scan (xs.drop (k + 1)) (k + 1) d true false = (r1, r2, r3, r4)) := by rw [Hid, ← in_esc HL.out]; exact HR.out
          go_wp2
          go_roundw
          case rel => exact ⟨k + 1, d, true, false, by omega, by go_num, hide (fun h => by cases h), HM.out.s2 _, belset hB _ _, HN⟩
          case measure => simp [intOf]; omega
        | false =>
          have hcr : ∀ i, i < n → wr.cell? ⟨b, i, none⟩ = some (.int .u8 (xs.getD i 0)) := fun i h => (hB.cell (by exact hbm)).trans (hc i h)
          have HK := hide (rest_any b n k xs wr hx hn hk hb hcr)
          clear hcr hc hb hcell HX
          go_wp2_with (go_at_call 29; refine HK.out.mono ?_; rintro e w' (⟨⟨q, rfl, hq1, hq2, hq3⟩, hw⟩ | ⟨⟨q, rfl, hq3⟩, hw⟩) <;> (have hw' := hw.symm; subst hw'; have HQ := hide hq3; clear hq3))
          · go_roundw
            case rel => exact ⟨q, d, false, false, by omega, by go_num, hide (fun h => by cases h), HM.out.s1 _, belset hB _ _, (HQ.out d).symm.trans HR.out⟩
            case measure => simp [intOf]; omega
          · go_ret
            obtain ⟨e1, e2, e3, e4⟩ := tup ((HQ.out d).symm.trans HR.out)
            subst e1 e2 e3 e4
            exact ⟨rfl, HM.out.s2 _, belset hB _ _⟩
      | false =>
        have he : e = false := by cases e; rfl; exact absurd (HE.out rfl) (by simp)
        subst he
        by_cases h3 : x = 34
        · have HN : Hid (scan (xs.drop (k + 1)) (k + 1) d true false = (r1, r2, r3, r4)) := by rw [Hid, ← out_q HL.out (HX.out.trans h3)]; exact HR.out
          subst h3
          have hcr : ∀ i, i < n → wr.cell? ⟨b, i, none⟩ = some (.int .u8 (xs.getD i 0)) := fun i h => (hB.cell (by exact hbm)).trans (hc i h)
          have HC := hide hcr
          have HXL : Hid (xs.length = n) := hx
          clear hcr hc hb HT hse hx HX HL
          by_cases h17 : k + 17 ≤ n
          all_goals
            go_wp2
            go_loop [8] (fun t => ∃ j : Nat, k + 1 ≤ j ∧ j ≤ n ∧ t = .int .i64 j ∧ Hid (scan (xs.drop j) j d true false = (r1, r2, r3, r4))) (fun t => n - (intOf t).toNat)
            case atStart => exact ⟨k + 1, by omega, by omega, by go_num, HN⟩
            case round =>
              obtain ⟨j, hj1, hj2, rfl, HJ⟩ := hrel
              by_cases hj : j < k + 17 ∧ j < n
              · obtain ⟨hja, hjb⟩ := hj
                have hcj := HC.out j hjb
                have hjl : j < xs.length := by rw [HXL.out]; exact hjb
                obtain ⟨y, hy⟩ : ∃ y, xs.getD j 0 = y := ⟨_, rfl⟩
                rw [hy] at hcj
                by_cases h34 : y = 34
                · have HY : Hid (scan (xs.drop (j + 1)) (j + 1) d false false = (r1, r2, r3, r4)) := by rw [Hid, ← in_q hjl (hy.trans h34)]; exact HJ.out
                  subst h34
                  clear hy hjl
                  go_wp2
                  go_roundw
                  case rel => exact ⟨j + 1, d, false, false, by omega, by go_num, hide (fun h => by cases h), HM.out, hB, HY⟩
                  case measure => simp [intOf]; omega
                · by_cases h92 : y = 92
                  · subst h92
                    clear hy hjl h34
                    go_wp2
                    go_roundw
                    case rel => exact ⟨j, d, true, false, by omega, by go_num, hide (fun h => by cases h), HM.out.s1 _, belset hB _ _, HJ⟩
                    case measure => simp [intOf]; omega
                  · have HY : Hid (scan (xs.drop (j + 1)) (j + 1) d true false = (r1, r2, r3, r4)) := by rw [Hid, ← in_other hjl (by rw [hy]; exact h92) (by rw [hy]; exact h34)]; exact HJ.out
                    have t34 : (y != 34) = true := by simpa using h34
                    have t92 : (y != 92) = true := by simpa using h92
                    clear hy hjl h34 h92
                    go_wp2
                    go_round
                    case rel => exact ⟨j + 1, by omega, by omega, by go_num, HY⟩
                    case measure => simp [intOf]; omega
              · go_wp2
                go_roundw
                case rel => exact ⟨j, d, true, false, by omega, by go_num, hide (fun h => by cases h), HM.out.s1 _, belset hB _ _, HJ⟩
                case measure => simp [intOf]; omega
        have t3 : (x == 34) = false := by simpa using h3
        by_cases ho : x = 123 ∨ x = 91
        · have HN : Hid (scan (xs.drop (k + 1)) (k + 1) (wrap64 (d + 1)) false false = (r1, r2, r3, r4)) := by rw [Hid, ← out_open HL.out (by rw [HX.out]; exact ho)]; exact HR.out
          rcases ho with rfl | rfl
          all_goals
            go_wp2
            go_roundw
            case rel => exact ⟨k + 1, _, false, false, by omega, by go_num, hide (fun h => by cases h), HM.out.s0 _, belset hB _ _, HN⟩
            case measure => simp [intOf]; omega
        have t12 : (x == 123) = false := by simp; omega
        have t91 : (x == 91) = false := by simp; omega
        by_cases hcl : x = 125 ∨ x = 93
        · by_cases hd : wrap64 (d - 1) = 0
          · have HN : Hid ((((k + 1 : Nat) : Int), wrap64 (d - 1), false, false) = (r1, r2, r3, r4)) := by rw [Hid, ← out_end HL.out (by rw [HX.out]; exact hcl) hd]; exact HR.out
            have td : (wrap64 (d - 1) == 0) = true := by simpa using hd
            clear hd
            rcases hcl with rfl | rfl
            all_goals
              go_wp2
              go_ret
              obtain ⟨e1, e2, e3, e4⟩ := tup HN.out
              subst e1 e2 e3 e4
              exact ⟨ret_int (by omega), HM.out.s0 _, belset hB _ _⟩
          · have HN : Hid (scan (xs.drop (k + 1)) (k + 1) (wrap64 (d - 1)) false false = (r1, r2, r3, r4)) := by rw [Hid, ← out_close HL.out (by rw [HX.out]; exact hcl) hd]; exact HR.out
            have td : (wrap64 (d - 1) == 0) = false := by simpa using hd
            clear hd
            rcases hcl with rfl | rfl
            all_goals
              go_wp2
              go_roundw
              case rel => exact ⟨k + 1, _, false, false, by omega, by go_num, hide (fun h => by cases h), HM.out.s0 _, belset hB _ _, HN⟩
              case measure => simp [intOf]; omega
        have t125 : (x == 125) = false := by simp; omega
        have t93 : (x == 93) = false := by simp; omega
        have HN : Hid (scan (xs.drop (k + 1)) (k + 1) d false false = (r1, r2, r3, r4)) := by rw [Hid, ← out_other HL.out (by rw [HX.out]; omega) (by rw [HX.out]; omega) (by rw [HX.out]; omega) (by rw [HX.out]; omega) (by rw [HX.out]; omega)]; exact HR.out
        clear ho hcl h3
        go_wp2
        go_roundw
        case rel => exact ⟨k + 1, d, false, false, by omega, by go_num, hide (fun h => by cases h), HM.out, hB, HN⟩
        case measure => simp [intOf]; omega
    · have HN : Hid ((-1, d, s, e) = (r1, r2, r3, r4)) := by rw [Hid, ← at_end (xs := xs) (k := k) (by omega)]; exact HR.out
      go_wp2
      go_ret
      obtain ⟨e1, e2, e3, e4⟩ := tup HN.out
      subst e1 e2 e3 e4
      exact ⟨rfl, HM.out, hB⟩
end Go.Proofs.Qxb6602558a.Br

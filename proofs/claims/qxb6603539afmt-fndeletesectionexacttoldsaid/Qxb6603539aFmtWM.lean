/-
  zzBytes of three arguments, zzEntryBefore: for the law on what is left exactly.
-/
import Derived.Test.Qxb6603539aFmtWC
import Derived.Test.Qxb6603539aFmtPl3
namespace Go.Proofs.Qxb6603539aFmt.Ds
open Go.RowKit

theorem zzEnt_any (b n cap i : Nat) (ao : Option Addr) (ls : List Ln) (w : World) (hn : ls.length = n) (hnb : n ≤ 1048576) (hi : i ≤ n) (hL : Lies w b ao ls) :
    Calls Tryf.prog 22 #[.slice ao n cap, .int .i64 i] w fun e w' => e = .returned (.int .i64 (entB ls i)) ∧ w' = w := by
  have hw0 : IntKind.i64.wrap ((i : Int) - 1) = (i : Int) - 1 := IntWalk.i64_in _ (by omega)
  go_enter Tryf.func22, Tryf.ntmps22
  go_wp2
  clear hw0
  go_loop [5] (fun t => ∃ k : Nat, k ≤ i ∧ t = .int .i64 ((k : Int) - 1) ∧ Hid (entB ls k = entB ls i)) (fun t => (intOf t + 1).toNat)
  case atStart => exact ⟨i, Nat.le_refl _, rfl, rfl⟩
  case round =>
    obtain ⟨k, hk, rfl, HR⟩ := hrel
    by_cases hk0 : k = 0
    · subst hk0
      clear hL
      go_wp2
      go_ret
      exact ⟨ret_int HR.out, rfl⟩
    · obtain ⟨j, rfl⟩ : ∃ j, k = j + 1 := ⟨k - 1, by omega⟩
      obtain rfl := hL.ao (by omega)
      have hcj := hL.c1 j (by omega)
      obtain ⟨x, hx⟩ : ∃ x, (at' ls j).k = x := ⟨_, rfl⟩
      rw [hx] at hcj
      have HX := hide hx
      have hjj : (((j + 1 : Nat) : Int) - 1) = (j : Int) := by omega
      rw [hjj]
      have hw1 : IntKind.i64.wrap ((j : Int) - 1) = (j : Int) - 1 := IntWalk.i64_in _ (by omega)
      have hj0 : (0 : Int) ≤ (j : Int) := by omega
      have hj1 : (j : Int) < (n : Int) := by omega
      clear hx hL hjj
      by_cases h3 : x = 3
      · subst h3
        go_wp2
        go_ret
        exact ⟨ret_int (by rw [← HR.out, entB_hit HX.out]), rfl⟩
      · have t3 : (x == 3) = false := by simpa using h3
        by_cases h0 : x = 0
        · subst h0
          go_wp2
          go_round
          case rel => exact ⟨j, by omega, rfl, by rw [Hid, ← HR.out, entB_on (.inl HX.out)]⟩
          case measure => simp [intOf]; try omega
        · have t0 : (x != 0) = true := ne_t h0
          by_cases h1 : x = 1
          · subst h1
            go_wp2
            go_round
            case rel => exact ⟨j, by omega, rfl, by rw [Hid, ← HR.out, entB_on (.inr (.inl HX.out))]⟩
            case measure => simp [intOf]; try omega
          · have t1 : (x != 1) = true := ne_t h1
            by_cases h4 : x = 4
            · subst h4
              go_wp2
              go_round
              case rel => exact ⟨j, by omega, rfl, by rw [Hid, ← HR.out, entB_on (.inr (.inr HX.out))]⟩
              case measure => simp [intOf]; try omega
            · have t4 : (x != 4) = true := ne_t h4
              go_wp2
              go_ret
              exact ⟨ret_int (by rw [← HR.out, entB_stop (by rw [HX.out]; exact h3) (by rw [HX.out]; omega)]), rfl⟩

theorem zzBytes3_big (bom : Bool) (ao : Option Addr) (n cap : Nat) (sec : ByteArray) (w : World) (h : 1048576 < n) :
    Calls Tryf.prog 5 #[.bool bom, .slice ao n cap, .string sec] w fun e w' => BP (n ≤ 1048576) e ∧ w' = w := by
  go_enter Tryf.func5, Tryf.ntmps5
  go_wp2
  go_ret
  exact ⟨BP.no, rfl⟩

theorem zzBytes3_in (bom : Bool) (ao : Option Addr) (zb zo n cap : Nat) (ls : List Ln) (sec : ByteArray) (w : World) (hl : ls.length = n) (hx : 0 < n → ao = some ⟨zb, zo, none⟩) (hz : ZL w zb zo ls) (hn : n ≤ 1048576) :
    Calls Tryf.prog 5 #[.bool bom, .slice ao n cap, .string sec] w fun e w' => BP (SzOk ls sec) e ∧ w' = w := by
  have HZ := hide hz
  clear hz
  go_enter Tryf.func5, Tryf.ntmps5
  go_wp2
  go_loop [7, 8] (fun tz ti => ∃ (z : Nat) (i : Nat), i ≤ n ∧ z ≤ 1048576 ∧ tz = .int .i64 z ∧ ti = .int .i64 i ∧ Hid (∀ j, j < i → (at' ls j).t.size ≤ 1048576)) (fun _ ti => n - (intOf ti).toNat)
  case atStart => exact ⟨n, 0, Nat.zero_le _, hn, rfl, rfl, fun j h => absurd h (Nat.not_lt_zero _)⟩
  case round =>
    obtain ⟨z, i, hin, hz1, rfl, rfl, HT⟩ := hrel
    by_cases hlt : i < n
    · obtain rfl := hx (by omega)
      have u0 := HZ.out.c0 i (by omega)
      obtain ⟨t, ht⟩ : ∃ t, (at' ls i).t = t := ⟨_, rfl⟩
      rw [ht] at u0
      have HTT := hide ht
      clear ht
      by_cases hb : t.size ≤ 1048576
      · have hw : IntKind.i64.wrap ((z : Int) + (t.size : Int)) = (z : Int) + (t.size : Int) := IntWalk.i64_in _ (by omega)
        by_cases hs : z + t.size ≤ 1048576
        · have hs1 : ¬ (1048576 : Int) < (z : Int) + (t.size : Int) := by omega
          go_wp2
          go_round
          case rel => exact ⟨z + t.size, i + 1, by omega, hs, by simp, by go_num, fun j hj => by
            by_cases h : j < i
            · exact HT.out j h
            · obtain rfl : j = i := by omega
              rw [HTT.out]; exact hb⟩
          case measure => simp [intOf]; omega
        · have hs1 : (1048576 : Int) < (z : Int) + (t.size : Int) := by omega
          go_wp2
          go_ret
          exact ⟨BP.no, rfl⟩
      · go_wp2
        go_ret
        exact ⟨BP.no, rfl⟩
    · obtain rfl : i = n := by omega
      by_cases hb : sec.size ≤ 1048576
      · have hw : IntKind.i64.wrap ((z : Int) + (sec.size : Int)) = (z : Int) + (sec.size : Int) := IntWalk.i64_in _ (by omega)
        by_cases hs : z + sec.size ≤ 1048576
        · have hs1 : ¬ (1048576 : Int) < (z : Int) + (sec.size : Int) := by omega
          go_wp2
          go_ret
          exact ⟨BP.yes ⟨by rw [hl]; exact HT.out, hb⟩, rfl⟩
        · have hs1 : (1048576 : Int) < (z : Int) + (sec.size : Int) := by omega
          go_wp2
          go_ret
          exact ⟨BP.no, rfl⟩
      · go_wp2
        go_ret
        exact ⟨BP.no, rfl⟩
#print axioms zzBytes3_in
end Go.Proofs.Qxb6603539aFmt.Ds

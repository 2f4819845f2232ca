/-
  The harness's own guards over the given lines: the bounds on the sizes; the premise on the headers; and the comparison of two files' lines.
-/
import Derived.Test.Qxb6603539aWZ
import Derived.Test.Qxb6603539aWStrZ
namespace Go.Proofs.Qxb6603539a.Ds
open Go.RowKit

def SzOk (ls : List Ln) (sec : ByteArray) : Prop := (∀ i, i < ls.length → (at' ls i).t.size ≤ 1048576) ∧ sec.size ≤ 1048576
def Sound (ls : List Ln) : Prop := ∀ i, i < ls.length → (at' ls i).k = 2 → ind (at' ls i).t < (at' ls i).t.size
/-- The call answers a bool; where it is true, p holds. -/
def BP (p : Prop) (e : Ending) : Prop := ∃ v : Bool, e = .returned (.bool v) ∧ (v = true → p)
theorem BP.no {p : Prop} : BP p (.returned (.bool false)) := ⟨false, rfl, by simp⟩
theorem BP.yes {p : Prop} (h : p) : BP p (.returned (.bool true)) := ⟨true, rfl, fun _ => h⟩
/-- The call answers an integer. -/
def IP (e : Ending) : Prop := ∃ v : Int, e = .returned (.int .i64 v)

theorem linesBytes_any (ao : Option Addr) (zb zo n cap x : Nat) (ls : List Ln) (w : World) (hl : ls.length = n) (hx : 0 < n → ao = some ⟨zb, zo, none⟩) (hz : ZL w zb zo ls) (hn : n ≤ 1048576) (ht : ∀ i, i < n → (at' ls i).t.size ≤ 1048576) (hx0 : x ≤ 1048576) :
    Calls Try.prog 8 #[.slice ao n cap, .int .i64 x] w fun e w' => IP e ∧ w' = w := by
  have HZ := hide hz
  have HT := hide ht
  clear hz ht
  go_enter Try.func8, Try.ntmps8
  go_wp2
  go_loop [1, 5] (fun tz ti => ∃ (z : Nat) (i : Nat), i ≤ n ∧ z ≤ 1048576 ∧ tz = .int .i64 z ∧ ti = .int .i64 i) (fun _ ti => n - (intOf ti).toNat)
  case atStart => exact ⟨x, 0, Nat.zero_le _, hx0, rfl, rfl⟩
  case round =>
    obtain ⟨z, i, hin, hz1, rfl, rfl⟩ := hrel
    by_cases hlt : i < n
    · obtain rfl := hx (by omega)
      have u0 := HZ.out.c0 i (by omega)
      have hb := HT.out i hlt
      obtain ⟨t, ht⟩ : ∃ t, (at' ls i).t = t := ⟨_, rfl⟩
      rw [ht] at u0 hb
      clear ht
      have hw0 : IntKind.i64.wrap (24 + (t.size : Int)) = 24 + (t.size : Int) := IntWalk.i64_in _ (by omega)
      have hw : IntKind.i64.wrap ((z : Int) + (24 + (t.size : Int))) = (z : Int) + (24 + (t.size : Int)) := IntWalk.i64_in _ (by omega)
      by_cases hs : z + (24 + t.size) ≤ 1048576
      · have hs1 : ¬ (1048576 : Int) < (z : Int) + (24 + (t.size : Int)) := by omega
        go_wp2
        go_round
        case rel => exact ⟨z + (24 + t.size), i + 1, by omega, hs, by simp, by go_num⟩
        case measure => simp [intOf]; omega
      · have hs1 : (1048576 : Int) < (z : Int) + (24 + (t.size : Int)) := by omega
        go_wp2
        go_ret
        exact ⟨⟨_, rfl⟩, rfl⟩
    · obtain rfl : i = n := by omega
      go_wp2
      go_ret
      exact ⟨⟨_, rfl⟩, rfl⟩

theorem sound_any (ao : Option Addr) (zb zo n cap : Nat) (ls : List Ln) (w : World) (hl : ls.length = n) (hx : 0 < n → ao = some ⟨zb, zo, none⟩) (hz : ZL w zb zo ls) (hn : n ≤ 1048576) (ht : ∀ i, i < n → (at' ls i).t.size ≤ 1048576) :
    Calls Try.prog 28 #[.slice ao n cap] w fun e w' => BP (Sound ls) e ∧ ∃ m, w' = w.drewN m := by
  have HZ := hide hz
  have HT := hide ht
  clear hz ht
  go_enter Try.func28, Try.ntmps28
  go_wp2
  go_loopw [3] (fun ti wr => ∃ (i : Nat), i ≤ n ∧ ti = .int .i64 i ∧ Hid (∃ m, wr = w.drewN m) ∧ Hid (∀ j, j < i → (at' ls j).k = 2 → ind (at' ls j).t < (at' ls j).t.size)) (fun ti _ => n - (intOf ti).toNat)
  case atStart => exact ⟨0, Nat.zero_le _, rfl, ⟨0, rfl⟩, fun j h => absurd h (Nat.not_lt_zero _)⟩
  case round =>
    obtain ⟨i, hin, rfl, HW, HS⟩ := hrel
    have hcl : ∀ p, wr.cell? p = w.cell? p := fun p => by obtain ⟨m, rfl⟩ := HW.out; rfl
    have hcl' := hide hcl
    clear hcl
    by_cases hlt : i < n
    · obtain rfl := hx (by omega)
      have u0 := (hcl'.out _).trans (HZ.out.c0 i (by omega))
      have u1 := (hcl'.out _).trans (HZ.out.c1 i (by omega))
      have hb := HT.out i hlt
      obtain ⟨⟨t, k, e⟩, hli⟩ : ∃ l, at' ls i = l := ⟨_, rfl⟩
      rw [hli] at u0 u1 hb
      simp only at u0 u1 hb
      have HI := hide (fun w => zz_indent t w (by unfold maxLen; omega))
      have HLI := hide hli
      clear hli
      have hi1 : (i : Int) < (n : Int) := by omega
      have hi0 : (0 : Int) ≤ (i : Int) := by omega
      by_cases hk : k = 2
      · subst hk
        by_cases hd : ind t < t.size
        · have hd1 : decide ((t.size : Int) ≤ (ind t : Int)) = false := decide_eq_false (by omega)
          have hd2 : decide (t.size ≤ ind t) = false := decide_eq_false (by omega)
          go_wp2
          go_quiet (exact Calls.quiet_of_same (HI.out _))
          go_wp2
          go_roundw
          case rel => exact ⟨i + 1, by omega, by go_num, by obtain ⟨m, rfl⟩ := HW.out; exact ⟨m + nq, by rw [World.drewN_drewN]⟩, fun j hj => by
              by_cases h : j < i
              · exact HS.out j h
              · obtain rfl : j = i := by omega
                rw [HLI.out]; exact fun h => hd⟩
          case measure => simp [intOf]; omega
        · have hd1 : decide ((t.size : Int) ≤ (ind t : Int)) = true := decide_eq_true (by omega)
          have hd2 : decide (t.size ≤ ind t) = true := decide_eq_true (by omega)
          go_wp2
          go_quiet (exact Calls.quiet_of_same (HI.out _))
          go_wp2
          go_ret
          exact ⟨BP.no, by obtain ⟨m, rfl⟩ := HW.out; exact ⟨m + nq, by rw [World.drewN_drewN]⟩⟩
      · have hk1 : (k == 2) = false := by simpa using hk
        go_wp2
        go_quiet (fail)
        go_wp2
        go_roundw
        case rel => exact ⟨i + 1, by omega, by go_num, by obtain ⟨m, rfl⟩ := HW.out; exact ⟨m + nq, by rw [World.drewN_drewN]⟩, fun j hj => by
              by_cases h : j < i
              · exact HS.out j h
              · obtain rfl : j = i := by omega
                rw [HLI.out]; exact fun h => absurd h hk⟩
        case measure => simp [intOf]; omega
    · obtain rfl : i = n := by omega
      go_wp2
      go_ret
      exact ⟨BP.yes (by unfold Sound; rw [hl]; exact HS.out), HW.out⟩
end Go.Proofs.Qxb6603539a.Ds

import Derived.Test.Qxb6603539aWF1
namespace Go.Proofs.Qxb6603539a.Ds
open Go.RowKit

/-- zzLinesBytes: what it adds is at least 24 a line, or the cap is passed. -/
def Adds (x n : Nat) (e : Ending) : Prop := ∃ v : Nat, e = .returned (.int .i64 v) ∧ v ≤ 3145728 ∧ (x + 24 * n ≤ v ∨ 1048576 < v)
theorem linesBytes_adds (ao : Option Addr) (zb zo n cap x : Nat) (ls : List Ln) (w : World) (hl : ls.length = n) (hx : 0 < n → ao = some ⟨zb, zo, none⟩) (hz : ZL w zb zo ls) (hn : n ≤ 1048576) (ht : ∀ i, i < n → (at' ls i).t.size ≤ 1048576) (hx0 : x ≤ 1048576) :
    Calls Try.prog 8 #[.slice ao n cap, .int .i64 x] w fun e w' => Adds x n e ∧ w' = w := by
  have HZ := hide hz
  have HT := hide ht
  clear hz ht
  go_enter Try.func8, Try.ntmps8
  go_wp2
  go_loop [1, 5] (fun tz ti => ∃ (z : Nat) (i : Nat), i ≤ n ∧ z ≤ 1048576 ∧ tz = .int .i64 z ∧ ti = .int .i64 i ∧ Hid (x + 24 * i ≤ z)) (fun _ ti => n - (intOf ti).toNat)
  case atStart => exact ⟨x, 0, Nat.zero_le _, hx0, rfl, rfl, Nat.le_refl _⟩
  case round =>
    obtain ⟨z, i, hin, hz1, rfl, rfl, HA⟩ := hrel
    by_cases hlt : i < n
    · obtain rfl := hx (by omega)
      have u0 := HZ.out.c0 i (by omega)
      have hb := HT.out i hlt
      obtain ⟨t, ht⟩ : ∃ t, (at' ls i).t = t := ⟨_, rfl⟩
      rw [ht] at u0 hb
      clear ht
      have hw0 : IntKind.i64.wrap (24 + (t.size : Int)) = 24 + (t.size : Int) := IntWalk.i64_in _ (by omega)
      have hw : IntKind.i64.wrap ((z : Int) + (24 + (t.size : Int))) = (z : Int) + (24 + (t.size : Int)) := IntWalk.i64_in _ (by omega)
      by_cases hs : z + (24 + t.size) ≤ 1048576
      · have hs1 : ¬ (1048576 : Int) < (z : Int) + (24 + (t.size : Int)) := by omega
        go_wp2
        go_round
        case rel => exact ⟨z + (24 + t.size), i + 1, by omega, hs, by simp, by go_num, by have := HA.out; show x + 24 * (i + 1) ≤ z + (24 + t.size); omega⟩
        case measure => simp [intOf]; omega
      · have hs1 : (1048576 : Int) < (z : Int) + (24 + (t.size : Int)) := by omega
        have HV : Hid (Adds x n (.returned (.int .i64 ((z : Int) + (24 + (t.size : Int)))))) := ⟨z + (24 + t.size), by simp, by omega, Or.inr (by omega)⟩
        go_wp2
        go_ret
        exact ⟨HV.out, rfl⟩
    · obtain rfl : i = n := by omega
      have HV : Hid (Adds x i (.returned (.int .i64 (z : Int)))) := ⟨z, rfl, by omega, Or.inl HA.out⟩
      go_wp2
      go_ret
      exact ⟨HV.out, rfl⟩

/-- How much a list of files holds: one for each, and its lines. -/
def cnt (zs : List Zf) : Nat → Nat
  | 0 => 0
  | i + 1 => cnt zs i + (1 + (zf zs i).ls.length)

set_option maxHeartbeats 1000000 in
theorem filesBytes_any (fa : Option Addr) (ob oo n cap x : Nat) (zs : List Zf) (w : World) (hl : zs.length = n) (hx : 0 < n → fa = some ⟨ob, oo, none⟩) (hz : ZFs w ob oo zs) (hn : n ≤ 1048576) (hok : ZOk zs) (hx0 : x ≤ 1048576) :
    Calls Try.prog 16 #[.slice fa n cap, .int .i64 x] w fun e w' => (∃ v : Nat, e = .returned (.int .i64 v) ∧ (v ≤ 1048576 → 24 * cnt zs n ≤ 1048576)) ∧ w' = w := by
  have HZ := hide hz
  have HL := hide hl
  have HOK := hide hok
  clear hz hl hok
  have HC0 : Hid (cnt zs 0 = 0) := rfl
  have HCS : Hid (∀ i, cnt zs (i + 1) = cnt zs i + (1 + (zf zs i).ls.length)) := fun i => rfl
  generalize cnt zs = C at HC0 HCS
  go_enter Try.func16, Try.ntmps16
  go_wp2
  go_loop [1, 5] (fun tz ti => ∃ (z : Nat) (i : Nat), i ≤ n ∧ z ≤ 1048576 ∧ tz = .int .i64 z ∧ ti = .int .i64 i ∧ Hid (24 * C i ≤ z)) (fun _ ti => n - (intOf ti).toNat)
  case atStart => exact ⟨x, 0, Nat.zero_le _, hx0, rfl, rfl, by rw [HC0.out]; exact Nat.zero_le _⟩
  case round =>
    obtain ⟨z, i, hin, hz1, rfl, rfl, HA⟩ := hrel
    by_cases hlt : i < n
    · obtain rfl := hx (by omega)
      have u0 := HZ.out.cell i (by rw [HL.out]; exact hlt)
      have HCI := HCS.out i
      have hok := HOK.out i (by rw [HL.out]; exact hlt)
      have HAO := hide (HZ.out.ao i (by rw [HL.out]; exact hlt))
      have HZL := hide (HZ.out.zl i (by rw [HL.out]; exact hlt))
      obtain ⟨⟨ao, zb, zo, cp, ls⟩, hzf⟩ : ∃ f, zf zs i = f := ⟨_, rfl⟩
      rw [hzf] at u0 HAO HZL HCI hok
      simp only at u0 HAO HZL HCI hok
      clear hzf
      have HCI := hide HCI
      have hw0 : IntKind.i64.wrap ((z : Int) + 24) = (z : Int) + 24 := IntWalk.i64_in _ (by omega)
      by_cases hs : z + 24 ≤ 1048576
      · have hs1 : ¬ (1048576 : Int) < (z : Int) + 24 := by omega
        have HC := linesBytes_adds ao zb zo ls.length cp (z + 24) ls w rfl HAO.out HZL.out hok.1 hok.2 hs
        rw [Int.natCast_add, show ((24 : Nat) : Int) = 24 from rfl] at HC
        have HC : Hid (Calls Try.prog 8 #[.slice ao ls.length cp, .int .i64 ((z : Int) + 24)] w fun e w' => Hid (Adds (z + 24) ls.length e ∧ w' = w)) := HC.mono fun _ _ h => h
        clear hs hok
        go_wp2_with (go_at_call 8; refine HC.out.mono ?_)
        intro e w' h
        obtain ⟨⟨v, rfl, hv, hv2⟩, hw⟩ := h.out
        have hw' := hw.symm
        subst hw'
        have HV2 := hide hv2
        have HV := hide hv
        clear hv2 hv h HC hs1
        by_cases hc : v ≤ 1048576
        · have hc1 : ¬ (1048576 : Int) < (v : Int) := by omega
          have HCC := hide hc
          have HZ1 := hide hz1
          have hw0 : IntKind.i64.wrap ((i : Int) + 1) = (i : Int) + 1 := IntWalk.i64_in _ (by omega)
          clear hc hz1
          go_wp2
          go_round
          case rel => exact ⟨v, i + 1, by omega, HCC.out, rfl, by go_num, by have h1 := HV2.out; have h2 := HA.out; have h3 := HCI.out; show 24 * C (i + 1) ≤ v; omega⟩
          case measure => simp [intOf]; omega
        · have hc1 : (1048576 : Int) < (v : Int) := by omega
          go_wp2
          go_ret
          exact ⟨⟨v, rfl, fun h => absurd h hc⟩, rfl⟩
      · have hs1 : (1048576 : Int) < (z : Int) + 24 := by omega
        go_wp2
        go_ret
        exact ⟨⟨z + 24, by simp, fun h => absurd h hs⟩, rfl⟩
    · obtain rfl : i = n := by omega
      go_wp2
      go_ret
      exact ⟨⟨z, rfl, fun _ => Nat.le_trans HA.out hz1⟩, rfl⟩

theorem lineCount_any (fa : Option Addr) (ob oo n cap : Nat) (zs : List Zf) (w : World) (hl : zs.length = n) (hx : 0 < n → fa = some ⟨ob, oo, none⟩) (hz : ZFs w ob oo zs) (hn : n ≤ 1048576) (hok : ZOk zs) :
    Calls Try.prog 17 #[.slice fa n cap] w fun e w' => IP e ∧ w' = w := by
  have HZ := hide hz
  have HL := hide hl
  have HOK := hide hok
  clear hz hl hok
  go_enter Try.func17, Try.ntmps17
  go_wp2
  go_loop [3, 4] (fun tz ti => ∃ (z : Nat) (i : Nat), i ≤ n ∧ z ≤ 4096 ∧ tz = .int .i64 z ∧ ti = .int .i64 i) (fun _ ti => n - (intOf ti).toNat)
  case atStart => exact ⟨0, 0, Nat.zero_le _, by omega, rfl, rfl⟩
  case round =>
    obtain ⟨z, i, hin, hz1, rfl, rfl⟩ := hrel
    by_cases hlt : i < n
    · obtain rfl := hx (by omega)
      have u0 := HZ.out.cell i (by rw [HL.out]; exact hlt)
      have hok := (HOK.out i (by rw [HL.out]; exact hlt)).1
      obtain ⟨⟨ao, zb, zo, cp, ls⟩, hzf⟩ : ∃ f, zf zs i = f := ⟨_, rfl⟩
      rw [hzf] at u0 hok
      simp only at u0 hok
      clear hzf
      generalize ls.length = p at u0 hok
      have hw : IntKind.i64.wrap ((z : Int) + (p : Int)) = (z : Int) + (p : Int) := IntWalk.i64_in _ (by omega)
      by_cases hs : z + p ≤ 4096
      · have hs1 : ¬ (4096 : Int) < (z : Int) + (p : Int) := by omega
        go_wp2
        go_round
        case rel => exact ⟨z + p, i + 1, by omega, hs, by simp, by go_num⟩
        case measure => simp [intOf]; omega
      · have hs1 : (4096 : Int) < (z : Int) + (p : Int) := by omega
        go_wp2
        go_ret
        exact ⟨⟨_, rfl⟩, rfl⟩
    · obtain rfl : i = n := by omega
      go_wp2
      go_ret
      exact ⟨⟨_, rfl⟩, rfl⟩

def ZSound (zs : List Zf) : Prop := ∀ i, i < zs.length → Sound (zf zs i).ls

set_option maxHeartbeats 1000000 in
theorem filesSound_any (fa : Option Addr) (ob oo n cap : Nat) (zs : List Zf) (w : World) (hl : zs.length = n) (hx : 0 < n → fa = some ⟨ob, oo, none⟩) (hz : ZFs w ob oo zs) (hn : n ≤ 1048576) (hok : ZOk zs) :
    Calls Try.prog 18 #[.slice fa n cap] w fun e w' => BP (ZSound zs) e ∧ ∃ m, w' = w.drewN m := by
  have HZ := hide hz
  have HL := hide hl
  have HOK := hide hok
  clear hz hl hok
  go_enter Try.func18, Try.ntmps18
  go_wp2
  go_loopw [3] (fun ti wr => ∃ (i : Nat), i ≤ n ∧ ti = .int .i64 i ∧ Hid (∃ m, wr = w.drewN m) ∧ Hid (∀ j, j < i → Sound (zf zs j).ls)) (fun ti _ => n - (intOf ti).toNat)
  case atStart => exact ⟨0, Nat.zero_le _, rfl, ⟨0, rfl⟩, fun j h => absurd h (Nat.not_lt_zero _)⟩
  case round =>
    obtain ⟨i, hin, rfl, HW, HS⟩ := hrel
    have HZ2 : Hid (ZFs wr ob oo zs) := by obtain ⟨m, rfl⟩ := HW.out; exact HZ.out.drewN m
    by_cases hlt : i < n
    · obtain rfl := hx (by omega)
      have u0 := HZ2.out.cell i (by rw [HL.out]; exact hlt)
      have hok := HOK.out i (by rw [HL.out]; exact hlt)
      have HAO := hide (HZ2.out.ao i (by rw [HL.out]; exact hlt))
      have HZL := hide (HZ2.out.zl i (by rw [HL.out]; exact hlt))
      obtain ⟨⟨ao, zb, zo, cp, ls⟩, hzf⟩ : ∃ f, zf zs i = f := ⟨_, rfl⟩
      have HZF := hide hzf
      rw [hzf] at u0 HAO HZL hok
      simp only at u0 HAO HZL hok
      clear hzf
      have HC : Hid (Calls Try.prog 28 #[.slice ao ls.length cp] wr fun e w' => Hid (BP (Sound ls) e ∧ ∃ m, w' = wr.drewN m)) := (sound_any ao zb zo ls.length cp ls wr rfl HAO.out HZL.out hok.1 hok.2).mono fun _ _ h => h
      go_wp2_with (go_at_call 28; refine HC.out.mono ?_)
      intro e w' h
      obtain ⟨⟨v, rfl, hv⟩, m, rfl⟩ := h.out
      clear h HC
      have HV := hide hv
      clear hv
      have HW2 : Hid (∃ m', wr.drewN m = w.drewN m') := by obtain ⟨m0, rfl⟩ := HW.out; exact ⟨m0 + m, by rw [World.drewN_drewN]⟩
      generalize wr.drewN m = W' at HW2
      cases v with
      | true =>
        have HV2 := hide (HV.out rfl)
        clear HV
        go_wp2
        go_roundw
        case rel => exact ⟨i + 1, by omega, by go_num, HW2, fun j hj => by
          by_cases h : j < i
          · exact HS.out j h
          · obtain rfl : j = i := by omega
            rw [HZF.out]; exact HV2.out⟩
        case measure => simp [intOf]; omega
      | false =>
        go_wp2
        go_ret
        exact ⟨BP.no, HW2.out⟩
    · obtain rfl : i = n := by omega
      go_wp2
      go_ret
      exact ⟨BP.yes (by unfold ZSound; rw [HL.out]; exact HS.out), HW.out⟩
end Go.Proofs.Qxb6603539a.Ds

import Derived.Test.Qxb6603539aWZB
namespace Go.Proofs.Qxb6603539a.Ds
open Go.RowKit

/-- One given file: where its lines lie, and what they are. -/
structure Zf where
  ao : Option Addr
  zb : Nat
  zo : Nat
  cap : Nat
  ls : List Ln
def zf (zs : List Zf) (i : Nat) : Zf := zs.getD i ⟨none, 0, 0, 0, []⟩
/-- The given files. -/
structure ZFs (w : World) (ob oo : Nat) (zs : List Zf) : Prop where
  cell : ∀ i, i < zs.length → w.cell? ⟨ob, oo + i, none⟩ = some (.slice (zf zs i).ao (zf zs i).ls.length (zf zs i).cap)
  ao : ∀ i, i < zs.length → 0 < (zf zs i).ls.length → (zf zs i).ao = some ⟨(zf zs i).zb, (zf zs i).zo, none⟩
  zl : ∀ i, i < zs.length → ZL w (zf zs i).zb (zf zs i).zo (zf zs i).ls
  lt : ∀ i, i < zs.length → 0 < (zf zs i).ls.length → (zf zs i).zb < w.heap.size
  olt : 0 < zs.length → ob < w.heap.size
theorem ZFs.drewN {w : World} {ob oo : Nat} {zs : List Zf} (h : ZFs w ob oo zs) (m : Nat) : ZFs (w.drewN m) ob oo zs := ⟨h.cell, h.ao, fun i hi => ⟨(h.zl i hi).c0, (h.zl i hi).c1, (h.zl i hi).c2⟩, h.lt, h.olt⟩
def Lok (ls : List Ln) : Prop := ls.length ≤ 1048576 ∧ ∀ j, j < ls.length → (at' ls j).t.size ≤ 1048576
def ZOk (zs : List Zf) : Prop := ∀ i, i < zs.length → Lok (zf zs i).ls

theorem zb15_big (fa : Option Addr) (n cap : Nat) (prec : Int)  (w : World) (h : 1048576 < n) :
    Calls Try.prog 15 #[.slice fa n cap, .int .i64 prec] w fun e w' => BP False e ∧ w' = w := by
  go_enter Try.func15, Try.ntmps15
  go_wp2
  go_ret
  exact ⟨BP.no, rfl⟩

set_option maxHeartbeats 4000000 in
theorem zb15_in (fa : Option Addr) (ob oo n cap : Nat) (prec : Int)  (zs : List Zf) (w : World) (hl : zs.length = n) (hx : 0 < n → fa = some ⟨ob, oo, none⟩) (hz : ZFs w ob oo zs) (hn : n ≤ 1048576) :
    Calls Try.prog 15 #[.slice fa n cap, .int .i64 prec] w fun e w' => BP (ZOk zs) e ∧ w' = w := by
  have HZ := hide hz
  clear hz
  have HL := hide hl
  clear hl
  go_enter Try.func15, Try.ntmps15
  go_wp2
  go_loop [5, 6] (fun tz ti => ∃ (z : Nat) (i : Nat), i ≤ n ∧ z ≤ 1048576 ∧ tz = .int .i64 z ∧ ti = .int .i64 i ∧ Hid (∀ j, j < i → Lok (zf zs j).ls)) (fun _ ti => n - (intOf ti).toNat)
  case atStart => exact ⟨n, 0, Nat.zero_le _, hn, rfl, rfl, fun j h => absurd h (Nat.not_lt_zero _)⟩
  case round =>
    obtain ⟨z, i, hin, hz1, rfl, rfl, HT⟩ := hrel
    by_cases hlt : i < n
    · obtain rfl := hx (by omega)
      have u0 := HZ.out.cell i (by rw [HL.out]; exact hlt)
      have HA := hide (HZ.out.ao i (by rw [HL.out]; exact hlt))
      have HZL := hide (HZ.out.zl i (by rw [HL.out]; exact hlt))
      obtain ⟨⟨ao, zb, zo, cp, ls⟩, hzf⟩ : ∃ f, zf zs i = f := ⟨_, rfl⟩
      have HZF := hide hzf
      rw [hzf] at u0 HA HZL
      simp only at u0 HA HZL
      clear hzf
      obtain ⟨p, hp⟩ : ∃ p, ls.length = p := ⟨_, rfl⟩
      have HP := hide hp
      rw [hp] at u0 HA
      clear hp
      by_cases hb : p ≤ 1048576
      · have hw : IntKind.i64.wrap ((z : Int) + (p : Int)) = (z : Int) + (p : Int) := IntWalk.i64_in _ (by omega)
        by_cases hs : z + p ≤ 1048576
        · have hs1 : ¬ (1048576 : Int) < (z : Int) + (p : Int) := by omega
          go_wp2
          go_loop [5, 7] (fun tz ti => ∃ (y : Nat) (k : Nat), k ≤ p ∧ y ≤ 1048576 ∧ tz = .int .i64 y ∧ ti = .int .i64 k ∧ Hid (∀ j, j < k → (at' ls j).t.size ≤ 1048576)) (fun _ ti => p - (intOf ti).toNat)
          case atStart => exact ⟨z + p, 0, Nat.zero_le _, hs, by simp, rfl, fun j h => absurd h (Nat.not_lt_zero _)⟩
          case round =>
            obtain ⟨y, k, hkp, hy1, rfl, rfl, HT2⟩ := hrel
            by_cases hlt2 : k < p
            · obtain rfl := HA.out (by omega)
              have v0 := HZL.out.c0 k (by rw [HP.out]; exact hlt2)
              obtain ⟨t, ht⟩ : ∃ t, (at' ls k).t = t := ⟨_, rfl⟩
              rw [ht] at v0
              have HTT := hide ht
              clear ht
              by_cases hbt : t.size ≤ 1048576
              · have hw2 : IntKind.i64.wrap ((y : Int) + (t.size : Int)) = (y : Int) + (t.size : Int) := IntWalk.i64_in _ (by omega)
                by_cases hs2 : y + t.size ≤ 1048576
                · have hs3 : ¬ (1048576 : Int) < (y : Int) + (t.size : Int) := by omega
                  go_wp2
                  go_round
                  case rel => exact ⟨y + t.size, k + 1, by omega, hs2, by simp, by go_num, fun j hj => by
                    by_cases h : j < k
                    · exact HT2.out j h
                    · obtain rfl : j = k := by omega
                      rw [HTT.out]; exact hbt⟩
                  case measure => simp [intOf]; omega
                · have hs3 : (1048576 : Int) < (y : Int) + (t.size : Int) := by omega
                  go_wp2
                  go_ret
                  exact ⟨BP.no, rfl⟩
              · go_wp2
                go_ret
                exact ⟨BP.no, rfl⟩
            · obtain rfl : k = p := by omega
              go_wp2
              go_round
              case rel => exact ⟨y, i + 1, by omega, hy1, rfl, by go_num, fun j hj => by
                by_cases h : j < i
                · exact HT.out j h
                · obtain rfl : j = i := by omega
                  rw [HZF.out]; exact ⟨by rw [HP.out]; exact hb, by rw [HP.out]; exact HT2.out⟩⟩
              case measure => simp [intOf]; omega
        · have hs1 : (1048576 : Int) < (z : Int) + (p : Int) := by omega
          go_wp2
          go_ret
          exact ⟨BP.no, rfl⟩
      · go_wp2
        go_ret
        exact ⟨BP.no, rfl⟩
    · obtain rfl : i = n := by omega
      have HOK : Hid (ZOk zs) := by unfold Hid ZOk; rw [HL.out]; exact HT.out
      go_wp2
      go_ret
      exact ⟨BP.yes HOK.out, rfl⟩

theorem zb23_big (fa : Option Addr) (n cap : Nat) (prec : Int) (nm : ByteArray) (w : World) (h : 1048576 < n) :
    Calls Try.prog 23 #[.slice fa n cap, .int .i64 prec, .string nm] w fun e w' => BP False e ∧ w' = w := by
  go_enter Try.func23, Try.ntmps23
  go_wp2
  go_ret
  exact ⟨BP.no, rfl⟩

set_option maxHeartbeats 4000000 in
theorem zb23_in (fa : Option Addr) (ob oo n cap : Nat) (prec : Int) (nm : ByteArray) (zs : List Zf) (w : World) (hl : zs.length = n) (hx : 0 < n → fa = some ⟨ob, oo, none⟩) (hz : ZFs w ob oo zs) (hn : n ≤ 1048576) :
    Calls Try.prog 23 #[.slice fa n cap, .int .i64 prec, .string nm] w fun e w' => BP (ZOk zs ∧ nm.size ≤ 1048576) e ∧ w' = w := by
  have HZ := hide hz
  clear hz
  have HL := hide hl
  clear hl
  go_enter Try.func23, Try.ntmps23
  go_wp2
  go_loop [7, 8] (fun tz ti => ∃ (z : Nat) (i : Nat), i ≤ n ∧ z ≤ 1048576 ∧ tz = .int .i64 z ∧ ti = .int .i64 i ∧ Hid (∀ j, j < i → Lok (zf zs j).ls)) (fun _ ti => n - (intOf ti).toNat)
  case atStart => exact ⟨n, 0, Nat.zero_le _, hn, rfl, rfl, fun j h => absurd h (Nat.not_lt_zero _)⟩
  case round =>
    obtain ⟨z, i, hin, hz1, rfl, rfl, HT⟩ := hrel
    by_cases hlt : i < n
    · obtain rfl := hx (by omega)
      have u0 := HZ.out.cell i (by rw [HL.out]; exact hlt)
      have HA := hide (HZ.out.ao i (by rw [HL.out]; exact hlt))
      have HZL := hide (HZ.out.zl i (by rw [HL.out]; exact hlt))
      obtain ⟨⟨ao, zb, zo, cp, ls⟩, hzf⟩ : ∃ f, zf zs i = f := ⟨_, rfl⟩
      have HZF := hide hzf
      rw [hzf] at u0 HA HZL
      simp only at u0 HA HZL
      clear hzf
      obtain ⟨p, hp⟩ : ∃ p, ls.length = p := ⟨_, rfl⟩
      have HP := hide hp
      rw [hp] at u0 HA
      clear hp
      by_cases hb : p ≤ 1048576
      · have hw : IntKind.i64.wrap ((z : Int) + (p : Int)) = (z : Int) + (p : Int) := IntWalk.i64_in _ (by omega)
        by_cases hs : z + p ≤ 1048576
        · have hs1 : ¬ (1048576 : Int) < (z : Int) + (p : Int) := by omega
          go_wp2
          go_loop [7, 9] (fun tz ti => ∃ (y : Nat) (k : Nat), k ≤ p ∧ y ≤ 1048576 ∧ tz = .int .i64 y ∧ ti = .int .i64 k ∧ Hid (∀ j, j < k → (at' ls j).t.size ≤ 1048576)) (fun _ ti => p - (intOf ti).toNat)
          case atStart => exact ⟨z + p, 0, Nat.zero_le _, hs, by simp, rfl, fun j h => absurd h (Nat.not_lt_zero _)⟩
          case round =>
            obtain ⟨y, k, hkp, hy1, rfl, rfl, HT2⟩ := hrel
            by_cases hlt2 : k < p
            · obtain rfl := HA.out (by omega)
              have v0 := HZL.out.c0 k (by rw [HP.out]; exact hlt2)
              obtain ⟨t, ht⟩ : ∃ t, (at' ls k).t = t := ⟨_, rfl⟩
              rw [ht] at v0
              have HTT := hide ht
              clear ht
              by_cases hbt : t.size ≤ 1048576
              · have hw2 : IntKind.i64.wrap ((y : Int) + (t.size : Int)) = (y : Int) + (t.size : Int) := IntWalk.i64_in _ (by omega)
                by_cases hs2 : y + t.size ≤ 1048576
                · have hs3 : ¬ (1048576 : Int) < (y : Int) + (t.size : Int) := by omega
                  go_wp2
                  go_round
                  case rel => exact ⟨y + t.size, k + 1, by omega, hs2, by simp, by go_num, fun j hj => by
                    by_cases h : j < k
                    · exact HT2.out j h
                    · obtain rfl : j = k := by omega
                      rw [HTT.out]; exact hbt⟩
                  case measure => simp [intOf]; omega
                · have hs3 : (1048576 : Int) < (y : Int) + (t.size : Int) := by omega
                  go_wp2
                  go_ret
                  exact ⟨BP.no, rfl⟩
              · go_wp2
                go_ret
                exact ⟨BP.no, rfl⟩
            · obtain rfl : k = p := by omega
              go_wp2
              go_round
              case rel => exact ⟨y, i + 1, by omega, hy1, rfl, by go_num, fun j hj => by
                by_cases h : j < i
                · exact HT.out j h
                · obtain rfl : j = i := by omega
                  rw [HZF.out]; exact ⟨by rw [HP.out]; exact hb, by rw [HP.out]; exact HT2.out⟩⟩
              case measure => simp [intOf]; omega
        · have hs1 : (1048576 : Int) < (z : Int) + (p : Int) := by omega
          go_wp2
          go_ret
          exact ⟨BP.no, rfl⟩
      · go_wp2
        go_ret
        exact ⟨BP.no, rfl⟩
    · obtain rfl : i = n := by omega
      have HOK : Hid (ZOk zs) := by unfold Hid ZOk; rw [HL.out]; exact HT.out
      by_cases hbn : nm.size ≤ 1048576
      · have hwn : IntKind.i64.wrap ((z : Int) + (nm.size : Int)) = (z : Int) + (nm.size : Int) := IntWalk.i64_in _ (by omega)
        by_cases hsn : z + nm.size ≤ 1048576
        · have hs1 : ¬ (1048576 : Int) < (z : Int) + (nm.size : Int) := by omega
          go_wp2
          go_ret
          exact ⟨BP.yes (by first | exact ⟨HOK.out, hbn⟩ | exact HOK.out), rfl⟩
        · have hs1 : (1048576 : Int) < (z : Int) + (nm.size : Int) := by omega
          go_wp2
          go_ret
          exact ⟨BP.no, rfl⟩
      · go_wp2
        go_ret
        exact ⟨BP.no, rfl⟩
end Go.Proofs.Qxb6603539a.Ds

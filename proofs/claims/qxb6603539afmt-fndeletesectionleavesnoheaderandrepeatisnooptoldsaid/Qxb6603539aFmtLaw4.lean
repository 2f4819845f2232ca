import Derived.Test.Qxb6603539aFmtWC
namespace Go.Proofs.Qxb6603539aFmt.Ds
open Go.RowKit

theorem LV.whole {w : World} {b n : Nat} {ao : Option Addr} {ls : List Ln} (h : LV w b n n ao ls) (hl : ls.length = n) : Lies w b ao ls := by
  have := h.lies
  rwa [List.take_of_length_le (by omega)] at this

/-- Is a header of the section among the first i lines? -/
def hadB (ls : List Ln) (sec : ByteArray) : Nat → Bool
  | 0 => false
  | i + 1 => if (at' ls i).k = 2 ∧ nameOf (at' ls i).t = sec then true else hadB ls sec i
theorem hadB_iff (ls : List Ln) (sec : ByteArray) : ∀ i, hadB ls sec i = true ↔ ∃ j, j < i ∧ (at' ls j).k = 2 ∧ nameOf (at' ls j).t = sec
  | 0 => by simp [hadB]
  | i + 1 => by
    unfold hadB
    split
    · rename_i h; simp only [true_iff]; exact ⟨i, by omega, h⟩
    · rename_i h
      rw [hadB_iff ls sec i]
      constructor
      · rintro ⟨j, hj, h2⟩; exact ⟨j, by omega, h2⟩
      · rintro ⟨j, hj, h2⟩
        by_cases e : j = i
        · subst e; exact absurd h2 h
        · exact ⟨j, by omega, h2⟩
theorem hadB_yes {ls : List Ln} {sec : ByteArray} {i : Nat} (h : (at' ls i).k = 2) (h2 : nameOf (at' ls i).t = sec) : hadB ls sec (i + 1) = true := by unfold hadB; rw [if_pos ⟨h, h2⟩]
theorem hadB_no {ls : List Ln} {sec : ByteArray} {i : Nat} (h : ¬ ((at' ls i).k = 2 ∧ nameOf (at' ls i).t = sec)) : hadB ls sec (i + 1) = hadB ls sec i := if_neg h
theorem had_runs (ls : List Ln) (sec : ByteArray) (hs : sec ≠ ByteArray.empty) : hadB ls sec ls.length = decide (0 < (runsOf ls sec).length) := by
  have h1 := hadB_iff ls sec ls.length
  have h2 := runs_pos ls sec hs
  rcases Bool.eq_false_or_eq_true (hadB ls sec ls.length) with h | h
  · rw [h]; exact (decide_eq_true (h2.2 (h1.1 h))).symm
  · rw [h]
    refine (decide_eq_false (fun hp => ?_)).symm
    have := h1.2 (h2.1 hp)
    rw [h] at this; cases this
theorem str_ne {a b : ByteArray} (h : a ≠ b) : (a.toList == b.toList) = false := by
  rw [ByteArray.toList_eq, ByteArray.toList_eq]
  simp only [beq_eq_false_iff_ne]
  intro e; apply h
  exact ByteArray.ext (by exact Array.toList_inj.1 e)

set_option maxRecDepth 100000 in
theorem law4_big (ao : Option Addr) (n cap : Nat) (sec : ByteArray) (w : World) (h : 1048576 < n) :
    Calls Tryf.prog 4 #[.slice ao n cap, .string sec] w fun e w' => e = .returned (.bool true) ∧ Below w.heap.size w w' := by
  have HC := hide (zzBytes_big ao n cap sec w h)
  go_enter Tryf.func4, Tryf.ntmps4
  go_wp2_with (go_at_call 12; refine HC.out.mono ?_)
  rintro e w' ⟨⟨v, rfl, hv⟩, rfl⟩
  cases v
  · go_wp2
    go_ret
    exact ⟨rfl, Below.refl _ _⟩
  · exact absurd (hv rfl) (by omega)

set_option maxHeartbeats 2000000 in
set_option maxRecDepth 100000 in
theorem law4_in (ao : Option Addr) (zb zo n cap : Nat) (ls : List Ln) (sec : ByteArray) (w : World) (F : Go.Stop.Interp) (hF : F.answers w.tape) (hg : Giv w ao zb zo n ls) (hn : n ≤ 1048576) :
    Calls Tryf.prog 4 #[.slice ao n cap, .string sec] w fun e w' => e = .returned (.bool true) ∧ Below w.heap.size w w' := by
  have HF := hide hF
  have HG := hide hg
  have hll := hg.len
  clear hF hg
  go_enter Tryf.func4, Tryf.ntmps4
  have HC := hide (zzBytes_in ao zb zo n cap ls sec w HG.out.len HG.out.ao HG.out.zl hn)
  go_wp2_with (go_at_call 12; refine HC.out.mono ?_)
  clear HC
  rintro e w' ⟨⟨v, rfl, hv⟩, hw⟩
  obtain rfl := hw.symm
  rcases v with _ | _
  · go_wp2
    go_ret
    exact ⟨rfl, Below.refl _ _⟩
  obtain ⟨ht, hs⟩ := hv rfl
  have HT := hide ht
  clear hv ht hw
  have hs' : (sec.size : Int) ≤ 1048576 := by omega
  have HC := hide (linesBytes_any ao zb zo n cap sec.size ls w HG.out.len HG.out.ao HG.out.zl hn (fun i hi => HT.out i (by omega)) hs)
  go_wp2_with (go_at_call 6; refine HC.out.mono ?_)
  clear HC
  rintro e w' ⟨⟨v, rfl⟩, hw⟩
  obtain rfl := hw.symm
  clear hw
  by_cases hv : (1048576 : Int) < v
  · go_wp2
    go_ret
    exact ⟨rfl, Below.refl _ _⟩
  have HC := hide (sound_any ao zb zo n cap ls w HG.out.len HG.out.ao HG.out.zl hn (fun i hi => HT.out i (by omega)))
  go_wp2_with (go_at_call 7; refine HC.out.mono ?_)
  clear HC
  rintro e w1 ⟨⟨v, rfl, hv⟩, hw⟩
  have HB1 : Hid (Below w.heap.size w w1) := by obtain ⟨k, rfl⟩ := hw; exact ⟨rfl, rfl, rfl, Nat.le_refl _, fun _ _ => rfl⟩
  clear hw
  rcases v with _ | _
  · go_wp2
    go_ret
    exact ⟨rfl, HB1.out⟩
  have HSO := hide (hv rfl)
  clear hv
  have HC := hide (tol_any ao zb zo n cap ls w1 (HG.out.below HB1.out) hn)
  go_wp2_with (go_at_call 8; refine HC.out.mono ?_)
  clear HC
  rintro e w2 ⟨a2, b2, rfl, hL2, hb2, hB2⟩
  have hb2a := Nat.le_of_eq hb2
  have hb2b := Nat.le_of_eq hb2.symm
  clear hb2
  have hBw2 : Below w.heap.size w w2 := HB1.out.trans (hB2.mono HB1.out.size)
  have hBw3 : Below w.heap.size w (w2.alloc (.cells #[.bool false, .slice a2 n n] 30)) := hBw2.alloc hBw2.size _
  have HC := hide (tol_any ao zb zo n cap ls (w2.alloc (.cells #[.bool false, .slice a2 n n] 30)) (HG.out.below hBw3) hn)
  have HL2 := hide hL2
  have HBw3 := hide hBw3
  have hs12 := HB1.out.size
  have hs22 := hB2.size
  have hs2 := hBw2.size
  clear hL2 hB2 hBw2 hBw3
  go_wp2_with (go_at_call 8; refine HC.out.mono ?_)
  clear HC
  rintro e w4 ⟨a4, b4, rfl, hL4, hb4, hB4⟩
  have hsz : w2.heap.size + 1 ≤ w4.heap.size := by have := hB4.size; simpa using this
  have hm4 : w4.heap[w2.heap.size]? = some (.cells #[.bool false, .slice a2 n n] 30 (0, 0)) := (hB4.block _ (by simp)).trans (heap_alloc_new _ _)
  have hL24 : LV w4 b2 n n a2 ls := HL2.out.kept (fun x => (hB4.block _ (by have := lt_of_some x; simp; omega)).trans ((Below.heap_alloc _ _ _ (lt_of_some x)).trans x))
  have hBw4 : Below w.heap.size w w4 := HBw3.out.trans (hB4.mono HBw3.out.size)
  have hb4a : b4 ≤ w2.heap.size + 1 := by rw [hb4]; simp
  have hb4b : w2.heap.size + 1 ≤ b4 := by rw [hb4]; simp
  clear hb4
  have HM := hide hm4
  have HLf := hide hL24
  have HLo := hide hL4
  have HB4 := hide hBw4
  have HF4 : Hid (F.answers w4.tape) := by rw [Hid, hBw4.tape]; exact HF.out
  clear hm4 hL24 hL4 hBw4 hB4 HL2 HBw3
  have htk : ls.take n = ls := List.take_of_length_le (by omega)
  have HD := hide (del_all sec w2.heap.size b2 n n a2 false ls w4 F HF4.out HLf.out HM.out hn (by unfold maxLen; omega) (by rw [htk]; exact HSO.out) (by rw [htk]; exact HT.out))
  rw [htk] at HD
  by_cases hz : sec.size = 0
  · have he := emp_yes hz
    go_wp2_with (go_at_call 9; refine HD.out.mono ?_)
    clear HD
    rintro e w5 (⟨hr, ⟨vE, rfl⟩, hb5⟩ | ⟨hr, _⟩)
    · have c5 : w5.cell? ⟨w2.heap.size, 1, none⟩ = some (.slice a2 n n) := by rw [hb5.cell (by exact lt_of_some HM.out), cell_of_row w4 _ 1 _ _ _ HM.out]; rfl
      have hL5 := (HLf.out.kept (w' := w5) (fun x => (hb5.block _ (lt_of_some x)).trans x)).whole hll
      have hO5 := (HLo.out.kept (w' := w5) (fun x => (hb5.block _ (lt_of_some x)).trans x)).whole hll
      have HC := hide (same_any a2 a4 b2 b4 n n n ls w5 hll hn hL5 hO5)
      have HB5 := hide hb5
      clear hL5 hO5 hb5
      go_wp2_with (go_at_call 11; refine HC.out.mono ?_; rintro e w6 ⟨rfl, hb6⟩)
      go_ret
      exact ⟨rfl, HB4.out.trans ((HB5.out.mono HB4.out.size).trans (hb6.mono (by have := HB4.out.size; have := HB5.out.size; omega)))⟩
    · exact absurd (.inl hz) hr
  · have he := emp_no (show 0 < sec.size by omega)
    have hse : sec ≠ ByteArray.empty := fun e => by rw [e] at hz; exact hz rfl
    go_wp2
    go_loop [8, 9] (fun th ti => ∃ i : Nat, i ≤ n ∧ th = .bool (hadB ls sec i) ∧ ti = .int .i64 i) (fun _ ti => n - (intOf ti).toNat)
    case atStart => exact ⟨0, Nat.zero_le _, rfl, rfl⟩
    case round =>
      obtain ⟨i, hin, rfl, rfl⟩ := hrel
      by_cases hlt : i < n
      · have hlo := HLo.out.whole hll
        obtain rfl := hlo.ao (by omega)
        have u0 := hlo.c0 i (by omega)
        have u1 := hlo.c1 i (by omega)
        have ht := HT.out i (by omega)
        have hso := HSO.out i (by omega)
        have hyes := hadB_yes (ls := ls) (sec := sec) (i := i)
        have hno := hadB_no (ls := ls) (sec := sec) (i := i)
        obtain ⟨⟨t, k, e⟩, hli⟩ : ∃ l, at' ls i = l := ⟨_, rfl⟩
        rw [hli] at u0 u1 ht hso hyes hno
        simp only at u0 u1 ht hso hyes hno
        have HY := hide hyes
        have HN := hide hno
        have HSS := hide hso
        clear hlo hyes hno hso hli
        have hi1 : (i : Int) < (n : Int) := by omega
        have hi0 : (0 : Int) ≤ (i : Int) := by omega
        by_cases hk : k = 2
        · subst hk
          have HC := hide (fun w => zz_name t w (by unfold maxLen; omega) (HSS.out rfl))
          by_cases hnm : nameOf t = sec
          · rw [hnm] at HC
            have HY2 : Hid (hadB ls sec (i + 1) = true) := HY.out rfl hnm
            go_wp2_with (go_at_call 13; refine (HC.out _).mono ?_; rintro e w' ⟨rfl, hw⟩; have hw' := hw.symm; subst hw')
            go_round
            case rel => exact ⟨i + 1, by omega, by rw [HY2.out], by go_num⟩
            case measure => simp [intOf]; omega
          · have tn := str_ne hnm
            have HN2 : Hid (hadB ls sec (i + 1) = hadB ls sec i) := HN.out (fun h => hnm h.2)
            go_wp2_with (go_at_call 13; refine (HC.out _).mono ?_; rintro e w' ⟨rfl, hw⟩; have hw' := hw.symm; subst hw')
            go_round
            case rel => exact ⟨i + 1, by omega, by rw [HN2.out], by go_num⟩
            case measure => simp [intOf]; omega
        · have hk1 : (k == 2) = false := by simpa using hk
          have HN2 : Hid (hadB ls sec (i + 1) = hadB ls sec i) := HN.out (fun h => hk h.1)
          go_wp2
          go_round
          case rel => exact ⟨i + 1, by omega, by rw [HN2.out], by go_num⟩
          case measure => simp [intOf]; omega
      · obtain rfl : n = i := by omega
        go_wp2_with (go_at_call 9; refine HD.out.mono ?_)
        clear HD
        have hrp := had_runs ls sec hse
        rw [hll] at hrp
        rw [hrp]
        rintro e w5 (⟨hr, ⟨vE, rfl⟩, hb5⟩ | ⟨hr, hok⟩)
        · have c5 : w5.cell? ⟨w2.heap.size, 1, none⟩ = some (.slice a2 n n) := by rw [hb5.cell (by exact lt_of_some HM.out), cell_of_row w4 _ 1 _ _ _ HM.out]; rfl
          have hL5 := (HLf.out.kept (w' := w5) (fun x => (hb5.block _ (lt_of_some x)).trans x)).whole hll
          have hO5 := (HLo.out.kept (w' := w5) (fun x => (hb5.block _ (lt_of_some x)).trans x)).whole hll
          have HC := hide (same_any a2 a4 b2 b4 n n n ls w5 hll hn hL5 hO5)
          have HB5 := hide hb5
          clear hL5 hO5 hb5
          go_wp2_with (go_at_call 11; refine HC.out.mono ?_; rintro e w6 ⟨rfl, hb6⟩)
          go_ret
          exact ⟨rfl, HB4.out.trans ((HB5.out.mono HB4.out.size).trans (hb6.mono (by have := HB4.out.size; have := HB5.out.size; omega)))⟩
        obtain ⟨rfl, L5, hm5, hL5, ht5, hO5⟩ := hok
        have hrn := rem_none ls sec hse
        have hrs := rem_sub ls sec hse
        have hrr := runs_rem ls sec hse
        have hrl : (rem ls 0 (runsOf ls sec)).length ≤ n := by
          have := hL5.len; have := rem_length ls 0 (runsOf ls sec) (RS.rok (runsOf_spec ls sec hse).1 0 (Nat.zero_le _) (fun _ _ => Nat.zero_le _)); omega
        obtain ⟨rr, hrre⟩ : ∃ rr, rem ls 0 (runsOf ls sec) = rr := ⟨_, rfl⟩
        rw [hrre] at hm5 hL5 ht5 hrn hrs hrr hrl
        obtain ⟨q, hq⟩ : ∃ q, rr.length = q := ⟨_, rfl⟩
        rw [hq] at hm5 hL5 ht5 hrl
        have hsoR : Sound rr := fun i hi => by
          obtain ⟨j, hj, e⟩ := hrs _ (at_mem hi)
          rw [← e]; exact HSO.out j hj
        have htR : ∀ i, i < rr.length → (at' rr i).t.size ≤ 1048576 := fun i hi => by
          obtain ⟨j, hj, e⟩ := hrs _ (at_mem hi)
          rw [← e]; exact HT.out j hj
        have hB5 : Below w.heap.size w w5 := HB4.out.trans (hO5.below (B := w.heap.size) (fun k h => by omega) HB4.out.size)
        have hli5 := hL5.lies
        rw [ht5] at hli5
        have hs45 := hO5.size
        have c5 : w5.cell? ⟨w2.heap.size, 1, none⟩ = some (.slice a2 q n) := by rw [cell_of_row w5 _ 1 _ _ _ hm5]; rfl
        have hqd : decide (n < q) = false := decide_eq_false (by omega)
        obtain ⟨bb, hbb⟩ : ∃ bb, decide (0 < (runsOf ls sec).length) = bb := ⟨_, rfl⟩
        rw [hbb]
        have HM5 := hide hm5
        have HL5 := hide hL5
        have HT5 := hide ht5
        have HO5 := hide hO5
        have HRN := hide hrn
        have HRR := hide hrr
        have HSR := hide hsoR
        have HTR := hide htR
        have HLI := hide hli5
        have HB5 := hide hB5
        clear hm5 hL5 ht5 hO5 hrn hrr hsoR htR hli5 hB5 hrs hr hrp hbb hrre
        go_wp2
        go_loop [12] (fun ti => ∃ i : Nat, i ≤ q ∧ ti = .int .i64 i) (fun ti => q - (intOf ti).toNat)
        case atStart => exact ⟨0, Nat.zero_le _, rfl⟩
        case round =>
          obtain ⟨i, hiq, rfl⟩ := hrel
          by_cases hlt : i < q
          · obtain rfl := HLI.out.ao (by omega)
            have u0 := HLI.out.c0 i (by omega)
            have u1 := HLI.out.c1 i (by omega)
            have ht := HTR.out i (by omega)
            have hso := HSR.out i (by omega)
            have hn2 := HRN.out _ (at_mem (i := i) (by omega))
            obtain ⟨⟨t, k, e⟩, hli⟩ : ∃ l, at' rr i = l := ⟨_, rfl⟩
            rw [hli] at u0 u1 ht hso hn2
            simp only at u0 u1 ht hso hn2
            have HSS := hide hso
            have HNN := hide hn2
            clear hn2 hso hli
            have hi1 : (i : Int) < (q : Int) := by omega
            have hi0 : (0 : Int) ≤ (i : Int) := by omega
            by_cases hk : k = 2
            · subst hk
              have HC := hide (fun w => zz_name t w (by unfold maxLen; omega) (HSS.out rfl))
              have hnm : nameOf t ≠ sec := fun h => HNN.out ⟨rfl, h⟩
              have tn := str_ne hnm
              go_wp2_with (go_at_call 13; refine (HC.out _).mono ?_; rintro e w' ⟨rfl, hw⟩; have hw' := hw.symm; subst hw')
              go_round
              case rel => exact ⟨i + 1, by omega, by go_num⟩
              case measure => simp [intOf]; omega
            · have hk1 : (k == 2) = false := by simpa using hk
              go_wp2
              go_round
              case rel => exact ⟨i + 1, by omega, by go_num⟩
              case measure => simp [intOf]; omega
          · obtain rfl : q = i := by omega
            have hgv := HL5.out.giv
            rw [HT5.out] at hgv
            have HC := hide (clone_any a2 b2 0 q n rr w5 hgv (by omega))
            clear hgv
            go_wp2_with (go_at_call 14; refine HC.out.mono ?_)
            clear HC
            rintro e w6 ⟨a6, b6, rfl, hL6, hb6, hB6⟩
            have hb6a := Nat.le_of_eq hb6
            have hb6b := Nat.le_of_eq hb6.symm
            clear hb6
            have hm6 := (hB6.block _ (lt_of_some HM5.out)).trans HM5.out
            have hL56 := HL5.out.kept (w' := w6) (fun x => (hB6.block _ (lt_of_some x)).trans x)
            have hB06 : Below w.heap.size w w6 := HB5.out.trans (hB6.mono HB5.out.size)
            have hF6 : F.answers w6.tape := by rw [hB06.tape]; exact HF.out
            have HD := hide (del_all sec w2.heap.size b2 q n a2 false L5 w6 F hF6 hL56 hm6 (by omega) (by unfold maxLen; omega) (by rw [HT5.out]; exact HSR.out) (by rw [HT5.out]; exact HTR.out))
            rw [HT5.out] at HD
            have HL6 := hide hL6
            have HB6 := hide hB06
            have hs56 := hB6.size
            have hm5lt := lt_of_some HM5.out
            clear hm6 hL56 hB06 hL6 hB6
            go_wp2_with (go_at_call 9; refine HD.out.mono ?_)
            clear HD
            rintro e w7 (⟨hr7, _⟩ | ⟨hr7, hok7⟩)
            · exfalso
              rcases hr7 with h | ⟨r, hr, _⟩
              · exact hz h
              · rw [HRR.out] at hr; cases hr
            · rw [HRR.out] at hok7
              obtain ⟨rfl, L7, hm7, hL7, ht7, hO7⟩ := hok7
              have hrem0 : rem rr 0 [] = rr := by simp [rem]
              rw [hrem0, hq] at hm7 hL7 ht7
              have c7 : w7.cell? ⟨w2.heap.size, 1, none⟩ = some (.slice a2 q n) := by rw [cell_of_row w7 _ 1 _ _ _ hm7]; rfl
              have hli7 := hL7.lies
              rw [ht7] at hli7
              have hL67 : LV w7 b6 q q a6 rr := HL6.out.kept (fun x => hO7.some x (fun h => by omega))
              have HC := hide (same_any a2 a6 b2 b6 q n q rr w7 hq (by omega) hli7 (hL67.whole hq))
              have hB7 : Below w.heap.size w w7 := HB6.out.trans (hO7.below (B := w.heap.size) (fun k h => by omega) HB6.out.size)
              have HB7 := hide hB7
              clear hm7 hL7 ht7 hO7 hli7 hL67 hB7
              go_wp2_with (go_at_call 11; refine HC.out.mono ?_; rintro e w8 ⟨rfl, hb8⟩)
              go_ret
              exact ⟨rfl, HB7.out.trans (hb8.mono HB7.out.size)⟩
#print axioms law4_in
end Go.Proofs.Qxb6603539aFmt.Ds

import Derived.Test.Qxb6603539aFmtWMod
namespace Go.Proofs.Qxb6603539aFmt.Ds
open Go.RowKit

theorem LV.whole3 {w : World} {b n : Nat} {ao : Option Addr} {ls : List Ln} (h : LV w b n n ao ls) (hl : ls.length = n) : Lies w b ao ls := by
  have := h.lies
  rwa [List.take_of_length_le (by omega)] at this


theorem Lies.keep {w w' : World} {b : Nat} {ao : Option Addr} {ls : List Ln} (h : Lies w b ao ls) (hb : 0 < ls.length → b < w.heap.size) (hB : Below w.heap.size w w') : Lies w' b ao ls :=
  ⟨h.ao, fun i hi => (hB.cell (p := ⟨b, i * 3, none⟩) (hb (by omega))).trans (h.c0 i hi), fun i hi => (hB.cell (p := ⟨b, i * 3 + 1, none⟩) (hb (by omega))).trans (h.c1 i hi), fun i hi => (hB.cell (p := ⟨b, i * 3 + 2, none⟩) (hb (by omega))).trans (h.c2 i hi)⟩
theorem Lies.blt {w : World} {b : Nat} {ao : Option Addr} {ls : List Ln} (h : Lies w b ao ls) (hp : 0 < ls.length) : b < w.heap.size := block_lt_of_cell (h.c0 0 hp)

/-- What a call of zzDeleteModel comes to. -/
def ModAll (ls : List Ln) (sec : ByteArray) (ao : Option Addr) (n cap : Nat) (w : World) (e : Ending) (w' : World) : Prop :=
  (Refd ls sec ∧ e = .returned (.tuple #[.slice ao n cap, .bool false, .bool true]) ∧ Below w.heap.size w w') ∨
  (¬ Refd ls sec ∧ ∃ ao' b' cp', e = .returned (.tuple #[.slice ao' (rem ls 0 (runsOf ls sec)).length cp', .bool (decide (0 < (runsOf ls sec).length)), .bool false]) ∧ Lies w' b' ao' (rem ls 0 (runsOf ls sec)) ∧ Below w.heap.size w w')

theorem mod_all (ao : Option Addr) (b n cap : Nat) (ls : List Ln) (sec : ByteArray) (w : World) (hl : ls.length = n) (hn : n ≤ 1048576) (hL : Lies w b ao ls) (hbl : 0 < n → b < w.heap.size) (hso : Sound ls) (ht : ∀ i, i < ls.length → (at' ls i).t.size ≤ 1048576) :
    Calls Tryf.prog 10 #[.slice ao n cap, .string sec] w fun e w' => ModAll ls sec ao n cap w e w' := by
  by_cases hs : sec.size = 0
  · refine (model_empty ao n cap sec w hs).mono ?_
    rintro e w' ⟨h1, rfl⟩
    exact .inl ⟨.inl hs, h1, Below.refl _ _⟩
  · refine (model_any ao b n cap ls sec w hl hn hL hbl (by omega) hso ht).mono ?_
    rintro e w' (⟨h1, h2, h3⟩ | ⟨h1, h2⟩)
    · exact .inl ⟨.inr h1, h2, h3⟩
    · exact .inr ⟨fun h => by rcases h with h | ⟨r, hr, hb⟩; exact hs h; exact h1 r hr hb, h2⟩

set_option maxRecDepth 100000 in
theorem law3_big (bom : Bool) (ao : Option Addr) (n cap : Nat) (sec : ByteArray) (w : World) (h : 1048576 < n) :
    Calls Tryf.prog 3 #[.bool bom, .slice ao n cap, .string sec] w fun e w' => e = .returned (.bool true) ∧ Below w.heap.size w w' := by
  have HC := hide (zzBytes3_big bom ao n cap sec w h)
  go_enter Tryf.func3, Tryf.ntmps3
  go_wp2_with (go_at_call 5; refine HC.out.mono ?_)
  rintro e w' ⟨⟨v, rfl, hv⟩, rfl⟩
  cases v
  · go_wp2
    go_ret
    exact ⟨rfl, Below.refl _ _⟩
  · exact absurd (hv rfl) (by omega)

set_option maxHeartbeats 2000000 in
set_option maxRecDepth 100000 in
theorem law3_in (bom : Bool) (ao : Option Addr) (zb zo n cap : Nat) (ls : List Ln) (sec : ByteArray) (w : World) (F : Go.Stop.Interp) (hF : F.answers w.tape) (hg : Giv w ao zb zo n ls) (hn : n ≤ 1048576) :
    Calls Tryf.prog 3 #[.bool bom, .slice ao n cap, .string sec] w fun e w' => e = .returned (.bool true) ∧ Below w.heap.size w w' := by
  have HF := hide hF
  have HG := hide hg
  have hll := hg.len
  clear hF hg
  go_enter Tryf.func3, Tryf.ntmps3
  have HC := hide (zzBytes3_in bom ao zb zo n cap ls sec w HG.out.len HG.out.ao HG.out.zl hn)
  go_wp2_with (go_at_call 5; refine HC.out.mono ?_)
  clear HC
  rintro e w' ⟨⟨v, rfl, hv⟩, hw⟩
  obtain rfl := hw.symm
  rcases v with _ | _
  · go_wp2
    go_ret
    exact ⟨rfl, Below.refl _ _⟩
  obtain ⟨ht, hs⟩ := hv rfl
  have HT := hide ht
  clear hv ht hw
  have hs' : (sec.size : Int) ≤ 1048576 := by omega
  have HC := hide (linesBytes_any ao zb zo n cap sec.size ls w HG.out.len HG.out.ao HG.out.zl hn (fun i hi => HT.out i (by omega)) hs)
  go_wp2_with (go_at_call 6; refine HC.out.mono ?_)
  clear HC
  rintro e w' ⟨⟨v, rfl⟩, hw⟩
  obtain rfl := hw.symm
  clear hw
  by_cases hv : (1048576 : Int) < v
  · go_wp2
    go_ret
    exact ⟨rfl, Below.refl _ _⟩
  have HC := hide (sound_any ao zb zo n cap ls w HG.out.len HG.out.ao HG.out.zl hn (fun i hi => HT.out i (by omega)))
  go_wp2_with (go_at_call 7; refine HC.out.mono ?_)
  clear HC
  rintro e w1 ⟨⟨v, rfl, hv⟩, hw⟩
  have HB1 : Hid (Below w.heap.size w w1) := by obtain ⟨k, rfl⟩ := hw; exact ⟨rfl, rfl, rfl, Nat.le_refl _, fun _ _ => rfl⟩
  clear hw
  rcases v with _ | _
  · go_wp2
    go_ret
    exact ⟨rfl, HB1.out⟩
  have HSO := hide (hv rfl)
  clear hv
  have HC := hide (tol_any ao zb zo n cap ls w1 (HG.out.below HB1.out) hn)
  go_wp2_with (go_at_call 8; refine HC.out.mono ?_)
  clear HC
  rintro e w2 ⟨a2, b2, rfl, hL2, hb2, hB2⟩
  have hb2a := Nat.le_of_eq hb2
  have hb2b := Nat.le_of_eq hb2.symm
  clear hb2
  have hBw2 : Below w.heap.size w w2 := HB1.out.trans (hB2.mono HB1.out.size)
  have hBw3 : Below w.heap.size w (w2.alloc (.cells #[.bool bom, .slice a2 n n] 30)) := hBw2.alloc hBw2.size _
  have HC := hide (tol_any ao zb zo n cap ls (w2.alloc (.cells #[.bool bom, .slice a2 n n] 30)) (HG.out.below hBw3) hn)
  have HL2 := hide hL2
  have HBw3 := hide hBw3
  have hs12 := HB1.out.size
  have hs22 := hB2.size
  have hs2 := hBw2.size
  clear hL2 hB2 hBw2 hBw3
  go_wp2_with (go_at_call 8; refine HC.out.mono ?_)
  clear HC
  rintro e w4 ⟨a4, b4, rfl, hL4, hb4, hB4⟩
  have hsz : w2.heap.size + 1 ≤ w4.heap.size := by have := hB4.size; simpa using this
  have hm4 : w4.heap[w2.heap.size]? = some (.cells #[.bool bom, .slice a2 n n] 30 (0, 0)) := (hB4.block _ (by simp)).trans (heap_alloc_new _ _)
  have hL24 : LV w4 b2 n n a2 ls := HL2.out.kept (fun x => (hB4.block _ (by have := lt_of_some x; simp; omega)).trans ((Below.heap_alloc _ _ _ (lt_of_some x)).trans x))
  have hBw4 : Below w.heap.size w w4 := HBw3.out.trans (hB4.mono HBw3.out.size)
  have hb4a : b4 ≤ w2.heap.size + 1 := by rw [hb4]; simp
  have hb4b : w2.heap.size + 1 ≤ b4 := by rw [hb4]; simp
  clear hb4
  have HM := hide hm4
  have HLf := hide hL24
  have HLo := hide hL4
  have HB4 := hide hBw4
  have HF4 : Hid (F.answers w4.tape) := by rw [Hid, hBw4.tape]; exact HF.out
  clear hm4 hL24 hL4 hBw4 hB4 HL2 HBw3
  have htk : ls.take n = ls := List.take_of_length_le (by omega)
  have HD := hide (del_all sec w2.heap.size b2 n n a2 bom ls w4 F HF4.out HLf.out HM.out hn (by unfold maxLen; omega) (by rw [htk]; exact HSO.out) (by rw [htk]; exact HT.out))
  rw [htk] at HD
  go_wp2_with (go_at_call 9; refine HD.out.mono ?_)
  clear HD
  have hlo := HLo.out.whole3 hll
  have hob : 0 < n → b4 < w4.heap.size := fun h => by
    rcases HLo.out with ⟨_, h0, _⟩ | ⟨_, _, _, h3⟩
    · omega
    · exact lt_of_some h3
  rintro e w5 (⟨hr, ⟨vE, rfl⟩, hb5⟩ | ⟨hr, hok⟩)
  · have c5 : w5.cell? ⟨w2.heap.size, 1, none⟩ = some (.slice a2 n n) := by rw [hb5.cell (by exact lt_of_some HM.out), cell_of_row w4 _ 1 _ _ _ HM.out]; rfl
    have c50 : w5.cell? ⟨w2.heap.size, 0, none⟩ = some (.bool bom) := by rw [hb5.cell (by exact lt_of_some HM.out), cell_of_row w4 _ 0 _ _ _ HM.out]; rfl
    have hL5 := (HLf.out.kept (w' := w5) (fun x => (hb5.block _ (lt_of_some x)).trans x)).whole3 hll
    have hO5 := (HLo.out.kept (w' := w5) (fun x => (hb5.block _ (lt_of_some x)).trans x)).whole3 hll
    have HC := hide (mod_all a4 b4 n n ls sec w5 hll hn hO5 (fun h => by have := hob h; have := hb5.size; omega) HSO.out HT.out)
    have hmlt5 : w2.heap.size < w5.heap.size := by have := lt_of_some HM.out; have := hb5.size; omega
    have HB5 := hide hb5
    have HL5 := hide hL5
    have HO5 := hide hO5
    clear hL5 hO5 hb5 hlo
    go_wp2_with (go_at_call 10; refine HC.out.mono ?_)
    clear HC
    rintro e w6 (⟨_, rfl, hb6⟩ | ⟨hr6, _⟩)
    · have c6 := (hb6.cell (p := ⟨w2.heap.size, 1, none⟩) hmlt5).trans c5
      have c60 := (hb6.cell (p := ⟨w2.heap.size, 0, none⟩) hmlt5).trans c50
      have hL6 := HL5.out.keep HL5.out.blt hb6
      have hO6 := HO5.out.keep HO5.out.blt hb6
      have HC := hide (same_any a2 a4 b2 b4 n n n ls w6 hll hn hL6 hO6)
      have HB6 := hide hb6
      clear hb6 hL6 hO6
      go_wp2_with (go_at_call 11; refine HC.out.mono ?_; rintro e w7 ⟨rfl, hb7⟩)
      go_ret
      have s4 := HB4.out.size
      have s5 := HB5.out.size
      have s6 := HB6.out.size
      exact ⟨rfl, HB4.out.trans ((HB5.out.mono s4).trans ((HB6.out.mono (by omega)).trans (hb7.mono (by omega))))⟩
    · exact absurd hr hr6
  · obtain ⟨rfl, L5, hm5, hL5, ht5, hO5⟩ := hok
    have hlv5 : LV w5 b4 n n a4 ls := HLo.out.kept (fun x => hO5.some x (fun h => by omega))
    have hlo5 := hlv5.whole3 hll
    have hs45 := hO5.size
    have hB5 : Below w.heap.size w w5 := HB4.out.trans (hO5.below (B := w.heap.size) (fun k h => by omega) HB4.out.size)
    have HC := hide (mod_all a4 b4 n n ls sec w5 hll hn hlo5 (fun h => by have := hob h; omega) HSO.out HT.out)
    have hli5 := hL5.lies
    rw [ht5] at hli5
    have hmlt5 := lt_of_some hm5
    have hqn := hL5.len.2
    have c5 : w5.cell? ⟨w2.heap.size, 1, none⟩ = some (.slice a2 (rem ls 0 (runsOf ls sec)).length n) := by rw [cell_of_row w5 _ 1 _ _ _ hm5]; rfl
    have c50 : w5.cell? ⟨w2.heap.size, 0, none⟩ = some (.bool bom) := by rw [cell_of_row w5 _ 0 _ _ _ hm5]; rfl
    have HB5 := hide hB5
    have HLI := hide hli5
    have HR := hide hr
    clear hm5 hL5 ht5 hO5 hlv5 hlo5 hB5 hli5 hlo hr
    unfold ModAll at HC
    obtain ⟨rr, hrr⟩ : ∃ rr, rem ls 0 (runsOf ls sec) = rr := ⟨_, rfl⟩
    obtain ⟨bb, hbb⟩ : ∃ bb, decide (0 < (runsOf ls sec).length) = bb := ⟨_, rfl⟩
    rw [hrr, hbb] at HC
    rw [hrr] at c5 HLI hqn
    rw [hbb]
    clear hrr hbb
    obtain ⟨q, hq⟩ : ∃ q, rr.length = q := ⟨_, rfl⟩
    rw [hq] at c5 hqn HC
    go_wp2_with (go_at_call 10; refine HC.out.mono ?_)
    clear HC
    rintro e w6 (⟨hr6, _⟩ | ⟨_, ao', b', cp', rfl, hli6, hb6⟩)
    · exact absurd hr6 HR.out
    · have c6 := (hb6.cell (p := ⟨w2.heap.size, 1, none⟩) hmlt5).trans c5
      have c60 := (hb6.cell (p := ⟨w2.heap.size, 0, none⟩) hmlt5).trans c50
      have hf6 := HLI.out.keep HLI.out.blt hb6
      have HC := hide (same_any a2 ao' b2 b' q n cp' rr w6 hq (by omega) hf6 hli6)
      have HB6 := hide hb6
      clear hb6 hf6 hli6 c5 c50
      go_wp2_with (go_at_call 11; refine HC.out.mono ?_; rintro e w7 ⟨rfl, hb7⟩)
      go_ret
      have s5 := HB5.out.size
      have s6 := HB6.out.size
      exact ⟨rfl, HB5.out.trans ((HB6.out.mono s5).trans (hb7.mono (by omega)))⟩
#print axioms law3_in
end Go.Proofs.Qxb6603539aFmt.Ds

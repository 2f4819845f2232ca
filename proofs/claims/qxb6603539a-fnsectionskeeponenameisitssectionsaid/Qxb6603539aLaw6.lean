import Derived.Test.Qxb6603539aLaw5
import Derived.Test.Qxb6603539aLaw1
namespace Go.Proofs.Qxb6603539a.Ds
open Go.RowKit

theorem RdS.one {W : World} {g cp i : Nat} {S : List Sc} (h : RdS W (.slice (some ⟨g, 0, none⟩) S.length cp) S) (hi : i < S.length) (cp2 : Nat) : RdS W (.slice (some ⟨g, i * 2, none⟩) 1 cp2) [sat S i] := by
  obtain ⟨a, cp', b, o, kv, e, ha, hb, hc⟩ := h
  obtain ⟨rfl, -, rfl⟩ := Value.slice.inj e
  have h1 := ha (by omega)
  injection h1 with h1
  injection h1 with h2 h3 h4
  subst h2
  subst h3
  obtain ⟨c1, c2, c3⟩ := hc i hi
  refine ⟨_, cp2, g, i * 2, fun _ => kv i, rfl, fun _ => rfl, fun _ => hb (by omega), fun j hj => ?_⟩
  obtain rfl : j = 0 := by simpa using hj
  rw [Nat.zero_add] at c1 c2
  exact ⟨by simpa [sat, List.getD] using c1, by simpa using c2, by simpa [sat, List.getD] using c3⟩

theorem named_any (fa : Option Addr) (fb n : Nat) (prec : Int) (nm : ByteArray) (fs : List Fl) (w : World) (hF : FilesAt w fa fb fs) (hg : Good fs n) (hn : n ≤ 1048576) :
    Calls Try.prog 24 #[.agg #[.slice fa n n, .int .i64 prec], .string nm] w fun e w' => Got (kN nm) fs w e w' := by
  have ha1 : Below w.heap.size w (w.alloc (.cells #[.slice fa n n, .int .i64 prec] 51)) := (Below.refl _ _).alloc (Nat.le_refl _) _
  have ha : Below w.heap.size w ((w.alloc (.cells #[.slice fa n n, .int .i64 prec] 51)).alloc (.cells #[.string nm] 9)) := ha1.alloc ha1.size _
  have hc : (w.alloc (.cells #[.slice fa n n, .int .i64 prec] 51)).heap.size = w.heap.size + 1 := by simp
  have hnw : ((w.alloc (.cells #[.slice fa n n, .int .i64 prec] 51)).alloc (.cells #[.string nm] 9)).heap[w.heap.size + 1]? = some (.cells #[.string nm] 9 (0, 0)) := by rw [← hc]; exact heap_alloc_new _ _
  have HC := sections_any (kN nm) keyT EV keyC evC fb fa prec fs 35 #[.pointer (some ⟨w.heap.size + 1, 0, none⟩)] ((w.alloc (.cells #[.slice fa n n, .int .i64 prec] 51)).alloc (.cells #[.string nm] 9)) (hF.kp (Kp.of_below ha)) hg.ok (by rw [hg.len]; exact hn) hg.parts (.inr ⟨_, nm, rfl, rfl, hnw, rfl⟩)
  rw [hg.len] at HC
  have HC : Hid (Calls Try.prog 29 #[.agg #[.slice fa n n, .int .i64 prec], .func (.func 35) #[] #[.pointer (some ⟨w.heap.size + 1, 0, none⟩)]] ((w.alloc (.cells #[.slice fa n n, .int .i64 prec] 51)).alloc (.cells #[.string nm] 9)) fun e w' => Hid (Got (kN nm) fs w e w')) := HC.mono fun e w' ⟨v, base, h1, h2, h3, h4, h5⟩ => ⟨v, h1, ⟨base, Nat.le_trans ha.size h2, h3⟩, h4, ha.trans (h5.mono ha.size)⟩
  have c0 : ((w.alloc (.cells #[.slice fa n n, .int .i64 prec] 51)).alloc (.cells #[.string nm] 9)).cell? ⟨w.heap.size, 0, none⟩ = some (.slice fa n n) := by rw [cell_of_row _ _ 0 _ _ _ ((Below.heap_alloc _ _ _ (by simp)).trans (heap_alloc_new w _))]; rfl
  have c1 : ((w.alloc (.cells #[.slice fa n n, .int .i64 prec] 51)).alloc (.cells #[.string nm] 9)).cell? ⟨w.heap.size, 1, none⟩ = some (.int .i64 prec) := by rw [cell_of_row _ _ 1 _ _ _ ((Below.heap_alloc _ _ _ (by simp)).trans (heap_alloc_new w _))]; rfl
  clear ha ha1 hF hg hnw hc
  go_enter Try.func24, Try.ntmps24
  go_wp2_with (go_at_call 29; refine HC.out.mono ?_)
  intro e w' h
  obtain ⟨v, rfl, h2⟩ := h.out
  have H2 := hide h2
  clear h2 h HC
  go_wp2
  go_ret
  exact ⟨v, rfl, H2.out⟩

theorem law6_big (fa : Option Addr) (n cap : Nat) (prec : Int) (nm : ByteArray) (w : World) (h : 1048576 < n) :
    Calls Try.prog 6 #[.slice fa n cap, .int .i64 prec, .string nm] w fun e w' => e = .returned (.bool true) ∧ Below w.heap.size w w' := by
  have HC : Hid (Calls Try.prog 23 #[.slice fa n cap, .int .i64 prec, .string nm] w fun e w' => Hid (BP False e ∧ w' = w)) := (zb23_big fa n cap prec nm w h).mono fun _ _ h => h
  go_enter Try.func6, Try.ntmps6
  go_wp2_with (go_at_call 23; refine HC.out.mono ?_)
  intro e w' h
  obtain ⟨⟨v, rfl, hv⟩, rfl⟩ := h.out
  cases v
  · go_wp2
    go_ret
    exact ⟨rfl, Below.refl _ _⟩
  · exact absurd (hv rfl) id

set_option maxHeartbeats 4000000 in
set_option maxRecDepth 100000 in
theorem law6_in (fa : Option Addr) (ob oo n cap : Nat) (prec : Int) (nm : ByteArray) (zs : List Zf) (w : World) (hl : zs.length = n) (hx : 0 < n → fa = some ⟨ob, oo, none⟩) (hz : ZFs w ob oo zs) (hn : n ≤ 1048576) :
    Calls Try.prog 6 #[.slice fa n cap, .int .i64 prec, .string nm] w fun e w' => e = .returned (.bool true) ∧ Below w.heap.size w w' := by
  have HZ := hide hz
  have HL := hide hl
  have HX := hide hx
  clear hz hl hx
  have HC : Hid (Calls Try.prog 23 #[.slice fa n cap, .int .i64 prec, .string nm] w fun e w' => Hid (BP (ZOk zs ∧ nm.size ≤ 1048576) e ∧ w' = w)) := (zb23_in fa ob oo n cap prec nm zs w HL.out HX.out HZ.out hn).mono fun _ _ h => h
  go_enter Try.func6, Try.ntmps6
  go_wp2_with (go_at_call 23; refine HC.out.mono ?_)
  intro e w' h
  obtain ⟨⟨v, rfl, hv⟩, hw⟩ := h.out
  obtain rfl := hw.symm
  clear h HC hw
  cases v
  · go_wp2
    go_ret
    exact ⟨rfl, Below.refl _ _⟩
  have HOK := hide (hv rfl).1
  have hnm := (hv rfl).2
  have hnm1 : decide ((1048576 : Int) < (nm.size : Int)) = false := decide_eq_false (by omega)
  clear hv
  have HC : Hid (Calls Try.prog 16 #[.slice fa n cap, .int .i64 (nm.size : Nat)] w fun e w' => Hid ((∃ v : Nat, e = .returned (.int .i64 v) ∧ (v ≤ 1048576 → 24 * cnt zs n ≤ 1048576)) ∧ w' = w)) := (filesBytes_any fa ob oo n cap nm.size zs w HL.out HX.out HZ.out hn HOK.out hnm).mono fun _ _ h => h
  go_wp2_with (go_at_call 16; refine HC.out.mono ?_)
  intro e w' h
  obtain ⟨⟨v, rfl, hv⟩, hw⟩ := h.out
  obtain rfl := hw.symm
  clear h HC hw
  by_cases hb : 1048576 < v
  · have hb1 : (1048576 : Int) < (v : Int) := by omega
    go_wp2
    go_ret
    exact ⟨rfl, Below.refl _ _⟩
  have HCN := hide (hv (by omega))
  have hb1 : ¬ (1048576 : Int) < (v : Int) := by omega
  have hb2 : decide ((1048576 : Int) < (v : Int)) = false := decide_eq_false hb1
  clear hv hb
  have HC : Hid (Calls Try.prog 17 #[.slice fa n cap] w fun e w' => Hid (IP e ∧ w' = w)) := (lineCount_any fa ob oo n cap zs w HL.out HX.out HZ.out hn HOK.out).mono fun _ _ h => h
  go_wp2_with (go_at_call 17; refine HC.out.mono ?_)
  intro e w' h
  obtain ⟨⟨u, rfl⟩, hw⟩ := h.out
  obtain rfl := hw.symm
  clear h HC hw
  by_cases hu : (4096 : Int) < u
  · have hu1 : decide ((4096 : Int) < u) = true := decide_eq_true hu
    go_wp2
    go_ret
    exact ⟨rfl, Below.refl _ _⟩
  have hu1 : decide ((4096 : Int) < u) = false := decide_eq_false hu
  have HC : Hid (Calls Try.prog 18 #[.slice fa n cap] w fun e w' => Hid (BP (ZSound zs) e ∧ ∃ m, w' = w.drewN m)) := (filesSound_any fa ob oo n cap zs w HL.out HX.out HZ.out hn HOK.out).mono fun _ _ h => h
  go_wp2_with (go_at_call 18; refine HC.out.mono ?_)
  intro e w' h
  obtain ⟨⟨v, rfl, hv⟩, m, rfl⟩ := h.out
  clear h HC hu hu1
  have HB1 := hide (below_drewN (Below.refl w.heap.size w) m)
  have HZ1 := hide (HZ.out.drewN m)
  generalize w.drewN m = w1 at HB1 HZ1
  cases v
  · go_wp2
    go_ret
    exact ⟨rfl, HB1.out⟩
  have HSD := hide (hv rfl)
  clear hv
  have HC : Hid (Calls Try.prog 19 #[.slice fa n cap] w1 fun e w' => Hid (Built zs w1 n e w')) := (build_any fa ob oo n cap zs w1 HL.out hn HX.out HZ1.out HOK.out).mono fun _ _ h => h
  go_wp2_with (go_at_call 19; refine HC.out.mono ?_)
  intro e w2 h
  obtain ⟨fa2, fb2, fs, rfl, hls, hF, hb2⟩ := h.out
  have HG := hide (good_of hls HL.out HOK.out HSD.out HCN.out)
  have HB2 := hide (HB1.out.trans (hb2.mono HB1.out.size))
  have HBA : Hid (Below w2.heap.size w2 (w2.alloc (.cells #[.slice fa2 n n, .int .i64 prec] 51))) := (Below.refl _ _).alloc (Nat.le_refl _) _
  have HF3 := hide (hF.kp (Kp.of_below HBA.out))
  have HB3 := hide (HB2.out.trans (HBA.out.mono HB2.out.size))
  have HCC : Hid ((w2.alloc (.cells #[.slice fa2 n n, .int .i64 prec] 51)).heap[w2.heap.size]? = some (.cells #[.slice fa2 n n, .int .i64 prec] 51 (0, 0))) := heap_alloc_new _ _
  clear h HC hls hF hb2 HB1 HZ1 HSD HCN HOK HBA HB2
  have HC : Hid (Calls Try.prog 24 #[.agg #[.slice fa2 n n, .int .i64 prec], .string nm] (w2.alloc (.cells #[.slice fa2 n n, .int .i64 prec] 51)) fun e w' => Hid (Got (kN nm) fs (w2.alloc (.cells #[.slice fa2 n n, .int .i64 prec] 51)) e w')) := (named_any fa2 fb2 n prec nm fs _ HF3.out HG.out hn).mono fun _ _ h => h
  go_wp2_with (go_at_call 24; refine HC.out.mono ?_)
  intro e w4 h
  obtain ⟨v4, rfl, ⟨base4, hb4, hR4⟩, hwf4, hbl4⟩ := h.out
  have HC4 := hide ((hbl4.block _ (lt_of_some HCC.out)).trans HCC.out)
  have c4 : w4.cell? ⟨w2.heap.size, 0, none⟩ = some (.slice fa2 n n) := by rw [cell_of_row w4 _ 0 _ _ _ HC4.out]; rfl
  have HF4 := hide (HF3.out.kp (Kp.of_below hbl4))
  have HB4 := hide (HB3.out.trans (hbl4.mono HB3.out.size))
  have HR4 := hide hR4.rd
  have HWF := hide hwf4
  rw [named_all, HG.out.len] at HR4 HWF
  clear h HC hb4 hR4 hwf4 hbl4 HCC HF3 HB3 HC4
  have HC : Hid (Calls Try.prog 22 #[.slice fa2 n n] w4 fun e w' => Hid (MPost w4 fs n e w')) := (model_any fs fa2 fb2 n w4 HG.out.len HF4.out HG.out.ok hn HG.out.lc).mono fun _ _ h => h
  go_wp2_with (go_at_call 22; refine HC.out.mono ?_)
  intro e w5 h
  obtain ⟨v5, rfl, hR5, hb5⟩ := h.out
  have HMW : Hid (WF 3000000 (modF fs n)) := (modF_wf fs n).mono (by have := HG.out.lc; omega)
  have HB5 := hide (HB4.out.trans (hb5.mono HB4.out.size))
  have HR45 := hide (HR4.out.below hb5)
  clear h HC hb5 c4 HR4 HB4 HF4
  generalize modF fs n = M at hR5 HMW HR45 HWF
  obtain ⟨kv, vv, φk, φv, hR⟩ := hR5
  have hSI := secIndex_any w4.heap.size w5 v5 M kv nm hR.row (by have := HMW.out.len; omega)
  by_cases hf : sidx M nm < M.length
  · rw [if_pos hf] at hSI
    have HSI := hide hSI
    have hone := filt_one HWF.out hf
    rw [hone] at HR45 HWF
    obtain ⟨g, cpg, rfl, -, -, -, hcp, -, -⟩ := own_at hR.row (by omega)
    have HS1 := RdS.one (Rep.rd ⟨kv, vv, φk, φv, hR⟩) hf (cpg - sidx M nm)
    have HS : Hid (Calls Try.prog 21 #[v4, .slice (some ⟨g, sidx M nm * 2, none⟩) 1 (cpg - sidx M nm)] w5 fun e w' => e = .returned (.bool true) ∧ Below w5.heap.size w5 w') := same_any v4 _ _ _ w5 HR45.out HS1 HWF.out (by omega)
    have hlen : M.length ≤ 3000000 := HMW.out.len
    clear hSI hone HS1 hR HR45 HWF HMW
    obtain ⟨ix, hix⟩ : ∃ ix, sidx M nm = ix := ⟨_, rfl⟩
    rw [hix] at HSI HS hf
    have hi0 : ¬ ((ix : Nat) : Int) < 0 := by omega
    have hi00 : decide (((ix : Nat) : Int) < 0) = false := decide_eq_false hi0
    have hi1 : (0 : Int) ≤ (ix : Int) := by omega
    have hi2 : IntKind.i64.wrap ((ix : Int) + 1) = (ix : Int) + 1 := IntWalk.i64_in _ (by omega)
    have hi3 : (ix : Int) ≤ (ix : Int) + 1 := by omega
    have hi4 : (ix : Int) + 1 ≤ (cpg : Int) := by omega
    have hi5 : ¬ cpg = ix := by omega
    have hi6 : ((ix : Int) + 1).toNat = ix + 1 := by omega
    have hi7 : ix + 1 - ix = 1 := by omega
    clear hix
    go_wp2_with (first | (go_at_call 25; refine HSI.out.mono ?_; rintro e w' ⟨rfl, hw⟩; have hw' := hw.symm; subst hw') | (go_at_call 21; refine HS.out.mono ?_))
    rintro e w6 ⟨rfl, hb6⟩
    have HB6 := hide (HB5.out.trans (hb6.mono HB5.out.size))
    clear hb6
    go_wp2
    go_ret
    exact ⟨rfl, HB6.out⟩
  · rw [if_neg hf] at hSI
    have HSI := hide hSI
    rw [filt_none nm M hf] at HR45
    obtain ⟨a4, cp4, -, -, -, rfl, -⟩ := HR45.out
    clear hSI hR HR45 HWF HMW
    go_wp2_with (go_at_call 25; refine HSI.out.mono ?_; rintro e w' ⟨rfl, hw⟩; have hw' := hw.symm; subst hw')
    go_ret
    exact ⟨rfl, HB5.out⟩
end Go.Proofs.Qxb6603539a.Ds

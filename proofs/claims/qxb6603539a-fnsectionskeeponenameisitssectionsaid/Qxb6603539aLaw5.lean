import Derived.Test.Qxb6603539aWSecs
import Derived.Test.Qxb6603539aWMod
import Derived.Test.Qxb6603539aWSame
import Derived.Test.Qxb6603539aLaw0
namespace Go.Proofs.Qxb6603539a.Ds
open Go.RowKit

theorem keyC : KeyC keyT := ⟨keyT_size, key_any⟩
theorem evC : EvC EV := ev_any

/-- The files that the harness builds. -/
def Built (zs : List Zf) (w : World) (n : Nat) (e : Ending) (w' : World) : Prop := ∃ fa fb, ∃ fs : List Fl, e = .returned (.slice fa n n) ∧ fs.map Fl.ls = zs.map Zf.ls ∧ FilesAt w' fa fb fs ∧ Below w.heap.size w w'
theorem build_any (fa : Option Addr) (ob oo n cap : Nat) (zs : List Zf) (w : World) (hl : zs.length = n) (hn : n ≤ 1048576) (hx : 0 < n → fa = some ⟨ob, oo, none⟩) (hz : ZFs w ob oo zs) (hok : ZOk zs) :
    Calls Try.prog 19 #[.slice fa n cap] w fun e w' => Built zs w n e w' := by
  cases fa with
  | none =>
    have h0 : n = 0 := by
      by_cases h : 0 < n
      · have := hx h; cases this
      · omega
    refine (build_nil n cap w).mono ?_
    rintro e w' ⟨rfl, rfl⟩
    subst h0
    obtain rfl : zs = [] := List.eq_nil_of_length_eq_zero hl
    exact ⟨none, 0, [], rfl, rfl, ⟨.inl ⟨rfl, rfl⟩, fun f h => (List.not_mem_nil h).elim⟩, Below.refl _ _⟩
  | some x =>
    refine (build_some x ob oo n cap zs w hl hn (fun h => by have := hx h; injection this) hz hok).mono ?_
    rintro e w' ⟨rfl, ⟨fs, h1, h2⟩, h3⟩
    exact ⟨_, _, fs, rfl, h1, h2, h3⟩

theorem fl_zf {zs : List Zf} {fs : List Fl} (h : fs.map Fl.ls = zs.map Zf.ls) : ∀ i, (fl fs i).ls = (zf zs i).ls := fun i => by
  have hl : fs.length = zs.length := by have := congrArg List.length h; simpa using this
  by_cases hi : i < fs.length
  · have h1 : (fs.map Fl.ls)[i]? = some (fl fs i).ls := by rw [List.getElem?_map, fl_some hi]; rfl
    have h2 : (zs.map Zf.ls)[i]? = some (zf zs i).ls := by rw [List.getElem?_map]; simp [zf, List.getD, show i < zs.length by omega]
    rw [h, h2] at h1
    exact (Option.some.inj h1).symm
  · unfold fl zf
    simp only [List.getD, List.getElem?_eq_none (show fs.length ≤ i by omega), List.getElem?_eq_none (show zs.length ≤ i by omega)]
    rfl
theorem lc_cnt {zs : List Zf} {fs : List Fl} (h : fs.map Fl.ls = zs.map Zf.ls) : ∀ k, lc fs k + k = cnt zs k
  | 0 => rfl
  | k + 1 => by
    have ih := lc_cnt h k
    rw [lc, cnt, fl_zf h k]; omega
theorem parts_le (fs : List Fl) : ∀ k, k ≤ fs.length → (fileParts (fs.take k)).length ≤ lc fs k + k
  | 0, _ => by simp [fileParts]
  | k + 1, h => by
    have hk : k < fs.length := by omega
    have hf : fs[k] = fl fs k := by have := fl_some hk; rw [List.getElem?_eq_getElem hk] at this; exact Option.some.inj this
    have ih := parts_le fs k (by omega)
    have h2 := allParts_length (fl fs k).ls
    rw [List.take_succ_eq_append_getElem hk, fileParts_snoc, hf, List.length_append, List.length_map, lc]
    omega
/-- What the guards give of the files built. -/
structure Good (fs : List Fl) (n : Nat) : Prop where
  len : fs.length = n
  ok : ∀ f ∈ fs, FOk f
  parts : (fileParts fs).length ≤ 700000
  lc : lc fs n ≤ 1000000
theorem good_of {zs : List Zf} {fs : List Fl} {n : Nat} (h : fs.map Fl.ls = zs.map Zf.ls) (hl : zs.length = n) (hok : ZOk zs) (hs : ZSound zs) (hc : 24 * cnt zs n ≤ 1048576) : Good fs n := by
  have hfl : fs.length = zs.length := by have := congrArg List.length h; simpa using this
  have h1 := lc_cnt h n
  have h2 := parts_le fs fs.length (Nat.le_refl _)
  rw [List.take_length, hfl, hl] at h2
  refine ⟨by omega, fun f hf => ?_, by omega, by omega⟩
  obtain ⟨i, hi, rfl⟩ := List.getElem_of_mem hf
  have he : fs[i] = fl fs i := by have := fl_some hi; rw [List.getElem?_eq_getElem hi] at this; exact Option.some.inj this
  have e2 := fl_zf h i
  rw [he]
  have hk := hok i (by omega)
  have hs' := hs i (by omega)
  exact ⟨by rw [e2]; exact hk.1, by rw [e2]; exact hs', by rw [e2]; exact hk.2⟩

/-- What ZZsections .. hands back. -/
def Got (kp : ByteArray → Bool) (fs : List Fl) (w : World) (e : Ending) (w' : World) : Prop := ∃ v, e = .returned v ∧ (∃ base, w.heap.size ≤ base ∧ Rep 72 78 base w' v (foldP kp keyT EV [] (fileParts fs))) ∧ WF 2936012800000 (foldP kp keyT EV [] (fileParts fs)) ∧ Below w.heap.size w w'

theorem all_any (fa : Option Addr) (fb n : Nat) (prec : Int) (fs : List Fl) (w : World) (hF : FilesAt w fa fb fs) (hg : Good fs n) (hn : n ≤ 1048576) :
    Calls Try.prog 20 #[.agg #[.slice fa n n, .int .i64 prec]] w fun e w' => Got tt fs w e w' := by
  have ha : Below w.heap.size w (w.alloc (.cells #[.slice fa n n, .int .i64 prec] 51)) := (Below.refl _ _).alloc (Nat.le_refl _) _
  have HC := sections_any tt keyT EV keyC evC fb fa prec fs 30 #[] (w.alloc (.cells #[.slice fa n n, .int .i64 prec] 51)) (hF.kp (Kp.of_below ha)) hg.ok (by rw [hg.len]; exact hn) hg.parts (by first | exact .inl ⟨rfl, rfl, rfl⟩ | exact .inl ⟨rfl, rfl, fun _ => rfl⟩)
  rw [hg.len] at HC
  have HP : Hid (∀ e w', (∃ v base, e = .returned v ∧ (w.alloc (.cells #[.slice fa n n, .int .i64 prec] 51)).heap.size ≤ base ∧ Rep 72 78 base w' v (foldP tt keyT EV [] (fileParts fs)) ∧ WF 2936012800000 (foldP tt keyT EV [] (fileParts fs)) ∧ Below (w.alloc (.cells #[.slice fa n n, .int .i64 prec] 51)).heap.size (w.alloc (.cells #[.slice fa n n, .int .i64 prec] 51)) w') → Got tt fs w e w') := fun e w' ⟨v, base, h1, h2, h3, h4, h5⟩ => ⟨v, h1, ⟨base, Nat.le_trans ha.size h2, h3⟩, h4, ha.trans (h5.mono ha.size)⟩
  have HC : Hid (Calls Try.prog 29 #[.agg #[.slice fa n n, .int .i64 prec], .func (.func 30) #[] #[]] (w.alloc (.cells #[.slice fa n n, .int .i64 prec] 51)) fun e w' => Hid (Got tt fs w e w')) := HC.mono fun e w' h => HP.out e w' h
  clear HP ha hF hg
  go_enter Try.func20, Try.ntmps20
  go_wp2_with (go_at_call 29; refine HC.out.mono ?_)
  intro e w' h
  obtain ⟨v, rfl, h2⟩ := h.out
  have H2 := hide h2
  clear h2 h HC
  go_wp2
  go_ret
  exact ⟨v, rfl, H2.out⟩

theorem law5_big (fa : Option Addr) (n cap : Nat) (prec : Int) (w : World) (h : 1048576 < n) :
    Calls Try.prog 5 #[.slice fa n cap, .int .i64 prec] w fun e w' => e = .returned (.bool true) ∧ Below w.heap.size w w' := by
  have HC : Hid (Calls Try.prog 15 #[.slice fa n cap, .int .i64 prec] w fun e w' => Hid (BP False e ∧ w' = w)) := (zb15_big fa n cap prec w h).mono fun _ _ h => h
  go_enter Try.func5, Try.ntmps5
  go_wp2_with (go_at_call 15; refine HC.out.mono ?_)
  intro e w' h
  obtain ⟨⟨v, rfl, hv⟩, rfl⟩ := h.out
  cases v
  · go_wp2
    go_ret
    exact ⟨rfl, Below.refl _ _⟩
  · exact absurd (hv rfl) id

set_option maxHeartbeats 4000000 in
set_option maxRecDepth 100000 in
theorem law5_in (fa : Option Addr) (ob oo n cap : Nat) (prec : Int) (zs : List Zf) (w : World) (hl : zs.length = n) (hx : 0 < n → fa = some ⟨ob, oo, none⟩) (hz : ZFs w ob oo zs) (hn : n ≤ 1048576) :
    Calls Try.prog 5 #[.slice fa n cap, .int .i64 prec] w fun e w' => e = .returned (.bool true) ∧ Below w.heap.size w w' := by
  have HZ := hide hz
  have HL := hide hl
  have HX := hide hx
  clear hz hl hx
  have HC : Hid (Calls Try.prog 15 #[.slice fa n cap, .int .i64 prec] w fun e w' => Hid (BP (ZOk zs) e ∧ w' = w)) := (zb15_in fa ob oo n cap prec zs w HL.out HX.out HZ.out hn).mono fun _ _ h => h
  go_enter Try.func5, Try.ntmps5
  go_wp2_with (go_at_call 15; refine HC.out.mono ?_)
  intro e w' h
  obtain ⟨⟨v, rfl, hv⟩, hw⟩ := h.out
  obtain rfl := hw.symm
  clear h HC hw
  cases v
  · go_wp2
    go_ret
    exact ⟨rfl, Below.refl _ _⟩
  have HOK := hide (hv rfl)
  clear hv
  have HC : Hid (Calls Try.prog 16 #[.slice fa n cap, .int .i64 0] w fun e w' => Hid ((∃ v : Nat, e = .returned (.int .i64 v) ∧ (v ≤ 1048576 → 24 * cnt zs n ≤ 1048576)) ∧ w' = w)) := (filesBytes_any fa ob oo n cap 0 zs w HL.out HX.out HZ.out hn HOK.out (Nat.zero_le _)).mono fun _ _ h => h
  go_wp2_with (go_at_call 16; refine HC.out.mono ?_)
  intro e w' h
  obtain ⟨⟨v, rfl, hv⟩, hw⟩ := h.out
  obtain rfl := hw.symm
  clear h HC hw
  by_cases hb : 1048576 < v
  · have hb1 : (1048576 : Int) < (v : Int) := by omega
    go_wp2
    go_ret
    exact ⟨rfl, Below.refl _ _⟩
  have HCN := hide (hv (by omega))
  have hb1 : ¬ (1048576 : Int) < (v : Int) := by omega
  have hb2 : decide ((1048576 : Int) < (v : Int)) = false := decide_eq_false hb1
  clear hv hb
  have HC : Hid (Calls Try.prog 17 #[.slice fa n cap] w fun e w' => Hid (IP e ∧ w' = w)) := (lineCount_any fa ob oo n cap zs w HL.out HX.out HZ.out hn HOK.out).mono fun _ _ h => h
  go_wp2_with (go_at_call 17; refine HC.out.mono ?_)
  intro e w' h
  obtain ⟨⟨u, rfl⟩, hw⟩ := h.out
  obtain rfl := hw.symm
  clear h HC hw
  by_cases hu : (4096 : Int) < u
  · have hu1 : decide ((4096 : Int) < u) = true := decide_eq_true hu
    go_wp2
    go_ret
    exact ⟨rfl, Below.refl _ _⟩
  have hu1 : decide ((4096 : Int) < u) = false := decide_eq_false hu
  have HC : Hid (Calls Try.prog 18 #[.slice fa n cap] w fun e w' => Hid (BP (ZSound zs) e ∧ ∃ m, w' = w.drewN m)) := (filesSound_any fa ob oo n cap zs w HL.out HX.out HZ.out hn HOK.out).mono fun _ _ h => h
  go_wp2_with (go_at_call 18; refine HC.out.mono ?_)
  intro e w' h
  obtain ⟨⟨v, rfl, hv⟩, m, rfl⟩ := h.out
  clear h HC hu hu1
  have HB1 := hide (below_drewN (Below.refl w.heap.size w) m)
  have HZ1 := hide (HZ.out.drewN m)
  generalize w.drewN m = w1 at HB1 HZ1
  cases v
  · go_wp2
    go_ret
    exact ⟨rfl, HB1.out⟩
  have HSD := hide (hv rfl)
  clear hv
  have HC : Hid (Calls Try.prog 19 #[.slice fa n cap] w1 fun e w' => Hid (Built zs w1 n e w')) := (build_any fa ob oo n cap zs w1 HL.out hn HX.out HZ1.out HOK.out).mono fun _ _ h => h
  go_wp2_with (go_at_call 19; refine HC.out.mono ?_)
  intro e w2 h
  obtain ⟨fa2, fb2, fs, rfl, hls, hF, hb2⟩ := h.out
  have HG := hide (good_of hls HL.out HOK.out HSD.out HCN.out)
  have HB2 := hide (HB1.out.trans (hb2.mono HB1.out.size))
  have HBA : Hid (Below w2.heap.size w2 (w2.alloc (.cells #[.slice fa2 n n, .int .i64 prec] 51))) := (Below.refl _ _).alloc (Nat.le_refl _) _
  have HF3 := hide (hF.kp (Kp.of_below HBA.out))
  have HB3 := hide (HB2.out.trans (HBA.out.mono HB2.out.size))
  have HCC : Hid ((w2.alloc (.cells #[.slice fa2 n n, .int .i64 prec] 51)).heap[w2.heap.size]? = some (.cells #[.slice fa2 n n, .int .i64 prec] 51 (0, 0))) := heap_alloc_new _ _
  clear h HC hls hF hb2 HB1 HZ1 HSD HCN HOK HBA HB2
  have HC : Hid (Calls Try.prog 20 #[.agg #[.slice fa2 n n, .int .i64 prec]] (w2.alloc (.cells #[.slice fa2 n n, .int .i64 prec] 51)) fun e w' => Hid (Got tt fs (w2.alloc (.cells #[.slice fa2 n n, .int .i64 prec] 51)) e w')) := (all_any fa2 fb2 n prec fs _ HF3.out HG.out hn).mono fun _ _ h => h
  go_wp2_with (go_at_call 20; refine HC.out.mono ?_)
  intro e w4 h
  obtain ⟨v4, rfl, ⟨base4, hb4, hR4⟩, hwf4, hbl4⟩ := h.out
  have HC4 := hide ((hbl4.block _ (lt_of_some HCC.out)).trans HCC.out)
  have c4 : w4.cell? ⟨w2.heap.size, 0, none⟩ = some (.slice fa2 n n) := by rw [cell_of_row w4 _ 0 _ _ _ HC4.out]; rfl
  have HF4 := hide (HF3.out.kp (Kp.of_below hbl4))
  have HB4 := hide (HB3.out.trans (hbl4.mono HB3.out.size))
  have HR4 := hide hR4.rd
  have HWF := hide hwf4
  rw [fold_all, HG.out.len] at HR4 HWF
  clear h HC hb4 hR4 hwf4 hbl4 HCC HF3 HB3 HC4
  have HC : Hid (Calls Try.prog 22 #[.slice fa2 n n] w4 fun e w' => Hid (MPost w4 fs n e w')) := (model_any fs fa2 fb2 n w4 HG.out.len HF4.out HG.out.ok hn HG.out.lc).mono fun _ _ h => h
  go_wp2_with (go_at_call 22; refine HC.out.mono ?_)
  intro e w5 h
  obtain ⟨v5, rfl, hR5, hb5⟩ := h.out
  have HS := hide (same_any v4 v5 (modF fs n) _ w5 (HR4.out.below hb5) hR5.rd HWF.out (by omega))
  have HB5 := hide (HB4.out.trans (hb5.mono HB4.out.size))
  clear h HC hR5 hb5 c4
  go_wp2_with (go_at_call 21; refine HS.out.mono ?_)
  rintro e w6 ⟨rfl, hb6⟩
  have HB6 := hide (HB5.out.trans (hb6.mono HB5.out.size))
  clear hb6
  go_wp2
  go_ret
  exact ⟨rfl, HB6.out⟩
end Go.Proofs.Qxb6603539a.Ds

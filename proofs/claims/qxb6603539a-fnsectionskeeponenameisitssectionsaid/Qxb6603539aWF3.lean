import Derived.Test.Qxb6603539aWF2
import Derived.Test.Qxb6603539aWCfg
namespace Go.Proofs.Qxb6603539a.Ds
open Go.RowKit

theorem q42 (w : World) (a : Option Addr) (n c n' c' : Nat) : (binOp .eql 42 (.slice a n c) (.slice none n' c')).run Try.prog w = .ok (.bool a.isNone) w := Lib.run_eql_slice_nil w _ _ a n c n' c' Try.underlying42
theorem Try.info27' : (Try.prog.info? 27).map (fun i => (i.zero, i.size, i.bytes)) = some (some (.pointer none), 1, 8) := by kernel_rfl

theorem build_nil (n cap : Nat) (w : World) : Calls Try.prog 19 #[.slice none n cap] w fun e w' => e = .returned (.slice none 0 0) ∧ w' = w := by
  have q42 := q42
  go_enter Try.func19, Try.ntmps19
  go_wp2
  go_ret
  exact ⟨rfl, rfl⟩

theorem own_row27 {w : World} {base b n : Nat} {L : List Value} (h : w.ownsRow base 27 1 (.slice (some ⟨b, 0, none⟩) n n) n L) : w.heap[b]? = some (.cells L.toArray 27 (0, 0)) := by
  rcases h.2 with ⟨h1, _⟩ | ⟨g, cap, cur, h1, _, h3, _, _, h6, h7⟩
  · cases h1
  · obtain ⟨h1, _, rfl⟩ := Value.slice.inj h1
    cases h1
    rw [List.take_of_length_le (by rw [Array.length_toList, h6]; exact Nat.le_refl _)] at h7
    rw [h3, ← h7]

theorem FileAt.set27 {W : World} {f : Fl} {B i : Nat} {v : Value} {c : Array Value} (h : FileAt W f) (hB : W.heap[B]? = some (.cells c 27 (0, 0))) : FileAt (W.setCell ⟨B, i, none⟩ v) f := by
  refine ⟨?_, h.2.kept (fun x => ?_)⟩
  · rw [Below.heap_setCell _ _ _ _ (by intro e; change f.m = B at e; have := h.1; rw [e, hB] at this; cases this)]; exact h.1
  · rw [Below.heap_setCell _ _ _ _ (by intro e; change f.b = B at e; rw [e, hB] at x; cases x)]; exact x

/-- The state of the loop: the first i files are laid. -/
def Bld (zs : List Zf) (B n i : Nat) (W : World) : Prop := ∃ fs : List Fl, fs.map Fl.ls = (zs.take i).map Zf.ls ∧ (∀ f ∈ fs, FileAt W f) ∧ W.heap[B]? = some (.cells (fs.map ptr ++ List.replicate (n - i) (Value.pointer none)).toArray 27 (0, 0))

theorem zf_take {zs : List Zf} {i : Nat} (h : i < zs.length) : (zs.take (i + 1)).map Zf.ls = (zs.take i).map Zf.ls ++ [(zf zs i).ls] := by
  rw [List.take_succ_eq_append_getElem h, List.map_append]
  simp [zf, List.getD, h]

theorem Bld.at {zs : List Zf} {B n i : Nat} {W w' : World} (h : Bld zs B n i W) (hl : zs.length = n) (hi : i < n) (hk : w'.heap[B]? = W.heap[B]?) : w'.cell? ⟨B, i, none⟩ = some (.pointer none) ∧ w'.frozen? ⟨B, i, none⟩ = false := by
  obtain ⟨fs, h1, _, h3⟩ := h
  have hlen : fs.length = i := by have := congrArg List.length h1; simp at this; omega
  refine ⟨?_, frozen_of_row _ _ _ _ _ (hk.trans h3)⟩
  rw [cell_of_row _ B i _ _ _ (hk.trans h3), List.getElem?_toArray, List.getElem?_append_right (by simp; omega)]
  simp only [List.length_map, hlen, Nat.sub_self]
  rw [show n - i = (n - i - 1) + 1 by omega]
  rfl
/-- One file more. -/
theorem Bld.step {zs : List Zf} {B n i : Nat} {W W1 : World} {ao : Option Addr} {b : Nat} (h : Bld zs B n i W) (hl : zs.length = n) (hi : i < n) (hB : B < W.heap.size) (hb : Below W.heap.size W W1) (hlv : LV W1 b (zf zs i).ls.length (zf zs i).ls.length ao (zf zs i).ls) :
    Bld zs B n (i + 1) ((W1.alloc (.cells #[.bool false, .slice ao (zf zs i).ls.length (zf zs i).ls.length] 31)).setCell ⟨B, i, none⟩ (.pointer (some ⟨W1.heap.size, 0, none⟩))) := by
  obtain ⟨fs, h1, h2, h3⟩ := h
  have hlen : fs.length = i := by have := congrArg List.length h1; simp at this; omega
  have hB1 : (W1.alloc (.cells #[.bool false, .slice ao (zf zs i).ls.length (zf zs i).ls.length] 31)).heap[B]? = some (.cells (fs.map ptr ++ List.replicate (n - i) (Value.pointer none)).toArray 27 (0, 0)) :=
    (Below.heap_alloc _ _ _ (by have := hb.size; omega)).trans ((hb.block _ hB).trans h3)
  refine ⟨fs ++ [⟨W1.heap.size, b, ao, (zf zs i).ls⟩], ?_, ?_, ?_⟩
  · rw [List.map_append, h1, zf_take (by omega)]; rfl
  · intro f hf
    refine FileAt.set27 ?_ hB1
    rcases List.mem_append.1 hf with hf | hf
    · exact ((h2 f hf).below hb).below ((Below.refl _ _).alloc (Nat.le_refl _) _)
    · obtain rfl := List.mem_singleton.1 hf
      exact ⟨heap_alloc_new W1 _, hlv.kept (fun x => (Below.heap_alloc _ _ _ (lt_of_some x)).trans x)⟩
  · have := heap_setCell_same _ B i _ _ (.pointer (some ⟨W1.heap.size, 0, none⟩)) hB1
    rw [this]
    congr 2
    simp only [List.setIfInBounds_toArray]
    congr 1
    rw [List.set_append_right _ _ (by simp; omega)]
    have e : n - i = (n - (i + 1)) + 1 := by omega
    rw [e, List.replicate_succ]
    simp [hlen, ptr]

set_option maxHeartbeats 4000000 in
theorem build_some (x : Addr) (ob oo n cap : Nat) (zs : List Zf) (w : World) (hl : zs.length = n) (hn : n ≤ 1048576) (hx : 0 < n → x = ⟨ob, oo, none⟩) (hz : ZFs w ob oo zs) (hok : ZOk zs) :
    Calls Try.prog 19 #[.slice (some x) n cap] w fun e w' => e = .returned (.slice (some ⟨w.heap.size, 0, none⟩) n n) ∧ (∃ fs : List Fl, fs.map Fl.ls = zs.map Zf.ls ∧ FilesAt w' (some ⟨w.heap.size, 0, none⟩) w.heap.size fs) ∧ Below w.heap.size w w' := by
  obtain ⟨i0, hi, hz0, hz1, hz2⟩ := info_parts Try.info27'
  have HZ := hide hz
  have HOK := hide hok
  have HL := hide hl
  clear hz hok hl
  have q42 := q42
  obtain ⟨B, hB⟩ : ∃ B, w.heap.size = B := ⟨_, rfl⟩
  go_enter Try.func19, Try.ntmps19
  go_wp2_with (at_make; refine wpList_make_full _ rfl _ _ 47 rfl w.heap.size 27 i0 (.pointer none) 1 Try.underlying47 hi hz0 hz1 _ _ _ _ n rfl rfl rfl rfl (by rw [hz2]; omega) (by unfold maxLen; omega) (Nat.le_refl _) ?_; intro w1 hown hgr; have hh : w1.heap[w.heap.size]? = some (.cells (List.replicate n (Value.pointer none)).toArray 27 (0, 0)) := (by have := own_row27 hown; rw [show (Value.pointer none).cells = #[.pointer none] from rfl, Nat.mul_one, toList_madeCells_one] at this; exact this); have HH := hide hh; have HB : Hid (Below w.heap.size w w1) := (Below.refl _ _).grown hgr (Nat.le_refl _) (fun k e => by cases e); clear hh hown hgr)
  rw [hB] at HH HB
  have HSB := hide hB
  clear hB
  go_loopw [4] (fun ti wr => ∃ i : Nat, i ≤ n ∧ ti = .int .i64 i ∧ Hid (Bld zs B n i wr) ∧ Hid (Below B w wr)) (fun ti _ => n - (intOf ti).toNat)
  case atStart => exact ⟨0, Nat.zero_le _, rfl, ⟨[], rfl, fun f hf => (List.not_mem_nil hf).elim, HH.out⟩, HB⟩
  case round =>
    obtain ⟨i, hin, rfl, HR, HBr⟩ := hrel
    have HBl : Hid (B < wr.heap.size) := by obtain ⟨fs, _, _, h⟩ := HR.out; exact lt_of_some h
    by_cases hlt : i < n
    · obtain rfl := hx (by omega)
      have HI : Hid (i < zs.length) := by show i < zs.length; rw [HL.out]; exact hlt
      have u0 := (HBr.out.cell (p := ⟨ob, oo + i, none⟩) (by have := HZ.out.olt (by have := HI.out; omega); have := HSB.out; show ob < B; omega)).trans (HZ.out.cell i HI.out)
      have HST := fun W1 ao b h1 h2 => Bld.step (W1 := W1) (ao := ao) (b := b) HR.out HL.out hlt HBl.out h1 h2
      have hlk := HOK.out i HI.out
      have HAO := hide (HZ.out.ao i HI.out)
      have HZL : Hid (ZL wr (zf zs i).zb (zf zs i).zo (zf zs i).ls) := by
        by_cases h0 : 0 < (zf zs i).ls.length
        · have := HZ.out.lt i HI.out h0
          have h1 := HSB.out
          exact (HZ.out.zl i HI.out).keep (fun j => HBr.out.cell (p := ⟨(zf zs i).zb, j, none⟩) (by show (zf zs i).zb < B; omega))
        · exact ⟨fun i hi => by omega, fun i hi => by omega, fun i hi => by omega⟩
      have HLT : Hid (0 < (zf zs i).ls.length → (zf zs i).zb < wr.heap.size) := fun h0 => by
        have := HZ.out.lt i HI.out h0; have := HSB.out; have := HBl.out; omega
      obtain ⟨⟨ao, zb, zo, cp, ls⟩, hzf⟩ : ∃ f, zf zs i = f := ⟨_, rfl⟩
      rw [hzf] at u0 HAO HZL HST hlk HLT
      simp only at u0 HAO HZL HST hlk HLT
      clear hzf
      have HST := hide HST
      have hi1 : (i : Int) < (n : Int) := by omega
      have hi0 : (0 : Int) ≤ (i : Int) := by omega
      obtain ⟨p, hp⟩ : ∃ p, ls.length = p := ⟨_, rfl⟩
      have HP := hide hp
      obtain ⟨hlk1, hlk2⟩ := hlk
      rw [hp] at u0 HAO HST hlk1 hlk2 HLT
      clear hp
      cases ao with
      | none =>
        have HP0 : Hid (p = 0) := by
          by_cases h0 : 0 < p
          · have := HAO.out h0; cases this
          · show p = 0; omega
        have HC := hide (fun w => tol_nil p cp w)
        have HS2 : Hid (Bld zs B n (i + 1) ((wr.alloc (.cells #[.bool false, .slice none 0 0] 31)).setCell ⟨B, i, none⟩ (.pointer (some ⟨wr.heap.size, 0, none⟩)))) := by
          have h := HST.out wr none 0 (Below.refl _ _) (Or.inl ⟨rfl, HP0.out, HP0.out, List.eq_nil_of_length_eq_zero (by rw [HP.out]; exact HP0.out)⟩)
          rw [HP0.out] at h; exact h
        have HB2 : Hid (∀ o v, Below B w ((wr.alloc o).setCell ⟨B, i, none⟩ v)) := fun o v => (HBr.out.alloc (Nat.le_of_lt HBl.out) o).setCell (p := ⟨B, i, none⟩) (Nat.le_refl _) v
        obtain ⟨hal, hfz⟩ := HR.out.at (w' := wr.alloc (.cells #[.bool false, .slice none 0 0] 31)) HL.out hlt (Below.heap_alloc _ _ _ HBl.out)
        clear HR HST HAO HZL HLT HP hlk1 hlk2
        go_wp2_with (go_at_call 10; refine (HC.out _).mono ?_; rintro e w' ⟨rfl, hw⟩; have hw' := hw.symm; subst hw')
        go_roundw
        case rel => exact ⟨i + 1, by omega, by go_num, HS2, HB2.out _ _⟩
        case measure => simp [intOf]; omega
      | some a =>
        have HC : Hid (Calls Try.prog 10 #[.slice (some a) p cp] wr fun e w' => Hid (e = .returned (.slice (some ⟨wr.heap.size, 0, none⟩) p p) ∧ Holds w' wr.heap.size ls ∧ Below wr.heap.size wr w')) :=
          (tol_some a zb zo p cp ls wr HP.out hlk1 (fun h => by have := HAO.out h; injection this) HLT.out HZL.out).mono fun _ _ h => h
        go_wp2_with (go_at_call 10; refine HC.out.mono ?_)
        intro e W1 h
        obtain ⟨rfl, hh, hb⟩ := h.out
        have HS2 : Hid (Bld zs B n (i + 1) ((W1.alloc (.cells #[.bool false, .slice (some ⟨wr.heap.size, 0, none⟩) p p] 31)).setCell ⟨B, i, none⟩ (.pointer (some ⟨W1.heap.size, 0, none⟩)))) :=
          HST.out W1 (some ⟨wr.heap.size, 0, none⟩) wr.heap.size hb (Or.inr ⟨rfl, Nat.le_refl _, HP.out, hh⟩)
        have HB1 := hide (HBr.out.trans (hb.mono (Nat.le_of_lt HBl.out)))
        have HBl1 : Hid (B < W1.heap.size) := by have := hb.size; have := HBl.out; show B < W1.heap.size; omega
        have HB2 : Hid (∀ o v, Below B w ((W1.alloc o).setCell ⟨B, i, none⟩ v)) := fun o v => (HB1.out.alloc (Nat.le_of_lt HBl1.out) o).setCell (p := ⟨B, i, none⟩) (Nat.le_refl _) v
        obtain ⟨hal, hfz⟩ := HR.out.at (w' := W1.alloc (.cells #[.bool false, .slice (some ⟨wr.heap.size, 0, none⟩) p p] 31)) HL.out hlt ((Below.heap_alloc _ _ _ HBl1.out).trans (hb.block _ HBl.out))
        clear HR HST HAO HZL HLT HP hlk1 hlk2 h hh hb HC
        go_wp2
        go_roundw
        case rel => exact ⟨i + 1, by omega, by go_num, HS2, HB2.out _ _⟩
        case measure => simp [intOf]; omega
    · obtain rfl : i = n := by omega
      have HF : Hid (∃ fs : List Fl, fs.map Fl.ls = zs.map Zf.ls ∧ FilesAt wr (some ⟨B, 0, none⟩) B fs) := by
        obtain ⟨fs, h1, h2, h3⟩ := HR.out
        refine ⟨fs, by rw [h1, ← HL.out, List.take_length], Or.inr ⟨rfl, ?_⟩, h2⟩
        rw [Nat.sub_self, List.replicate_zero, List.append_nil] at h3; exact h3
      go_wp2
      go_ret
      exact ⟨by rw [HSB.out]; rfl, by rw [HSB.out]; exact HF.out, by rw [HSB.out]; exact HBr.out⟩
end Go.Proofs.Qxb6603539a.Ds

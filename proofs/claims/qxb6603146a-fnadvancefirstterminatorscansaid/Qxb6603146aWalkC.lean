import Derived.Test.Qxb6603146aProg
import Derived.WalkKit
import Derived.WalkSpells
import Derived.Deep.QuietTactic
import Derived.BigQuiet
import Derived.Deep.RegionWith
import Derived.Test.Qxb6603146aWalkA
namespace Go.Proofs.Qxb6603146a.Ad
open Go.RowKit

theorem results_tmp4 {fn : Func} {t u v x : Tmp} (h : fn.results = #[.tmp t, .tmp u, .tmp v, .tmp x]) (tmps : Array Value) (P : Program) (w : World) :
    (results fn tmps).run P w = .ok (.tuple #[tmps.getD t undef, tmps.getD u undef, tmps.getD v undef, tmps.getD x undef]) w := by
  simp [results, h]
theorem results_tmp8 {fn : Func} {a b c d e f g i : Tmp} (h : fn.results = #[.tmp a, .tmp b, .tmp c, .tmp d, .tmp e, .tmp f, .tmp g, .tmp i]) (tmps : Array Value) (P : Program) (w : World) :
    (results fn tmps).run P w = .ok (.tuple #[tmps.getD a undef, tmps.getD b undef, tmps.getD c undef, tmps.getD d undef, tmps.getD e undef, tmps.getD f undef, tmps.getD g undef, tmps.getD i undef]) w := by
  simp [results, h]

/-- The lineReader in block m. -/
def Rdr (w : World) (m : Nat) (v : Value) (p l c k : Int) : Prop := w.heap[m]? = some (.cells #[v, .int .i64 p, .int .i64 l, .int .i64 c, .int .i64 k] 39 (0, 0))
section
variable {w : World} {m : Nat} {v : Value} {p l c k : Int}
theorem Rdr.c0 (h : Rdr w m v p l c k) : w.cell? ⟨m, 0, none⟩ = some v := by rw [cell_of_row w m 0 _ _ _ h]; rfl
theorem Rdr.c1 (h : Rdr w m v p l c k) : w.cell? ⟨m, 1, none⟩ = some (.int .i64 p) := by rw [cell_of_row w m 1 _ _ _ h]; rfl
theorem Rdr.c2 (h : Rdr w m v p l c k) : w.cell? ⟨m, 2, none⟩ = some (.int .i64 l) := by rw [cell_of_row w m 2 _ _ _ h]; rfl
theorem Rdr.c3 (h : Rdr w m v p l c k) : w.cell? ⟨m, 3, none⟩ = some (.int .i64 c) := by rw [cell_of_row w m 3 _ _ _ h]; rfl
theorem Rdr.c4 (h : Rdr w m v p l c k) : w.cell? ⟨m, 4, none⟩ = some (.int .i64 k) := by rw [cell_of_row w m 4 _ _ _ h]; rfl
theorem Rdr.f (h : Rdr w m v p l c k) (j : Nat) : w.frozen? ⟨m, j, none⟩ = false := frozen_of_row w m j _ _ h
theorem Rdr.s1 (h : Rdr w m v p l c k) (x : Int) : Rdr (w.setCell ⟨m, 1, none⟩ (.int .i64 x)) m v x l c k := by
  have := heap_setCell_same w m 1 _ _ (.int .i64 x) h; exact this
theorem Rdr.s2 (h : Rdr w m v p l c k) (x : Int) : Rdr (w.setCell ⟨m, 2, none⟩ (.int .i64 x)) m v p x c k := by
  have := heap_setCell_same w m 2 _ _ (.int .i64 x) h; exact this
theorem Rdr.s3 (h : Rdr w m v p l c k) (x : Int) : Rdr (w.setCell ⟨m, 3, none⟩ (.int .i64 x)) m v p l x k := by
  have := heap_setCell_same w m 3 _ _ (.int .i64 x) h; exact this
theorem Rdr.s4 (h : Rdr w m v p l c k) (x : Int) : Rdr (w.setCell ⟨m, 4, none⟩ (.int .i64 x)) m v p l c x := by
  have := heap_setCell_same w m 4 _ _ (.int .i64 x) h; exact this
theorem Rdr.drewN (h : Rdr w m v p l c k) (n : Nat) : Rdr (w.drewN n) m v p l c k := h
end
theorem below_drewN {B : Nat} {a w : World} (h : Below B a w) (n : Nat) : Below B a (w.drewN n) := h.trans ⟨rfl, rfl, rfl, Nat.le_refl _, fun _ _ => rfl⟩
theorem belset {m : Nat} {w wr : World} (h : Below m w wr) (j : Nat) (v : Value) : Below m w (wr.setCell ⟨m, j, none⟩ v) := h.setCell (Nat.le_refl _) v

/-- At or past the end: no line; nothing turns. -/
theorem adv_past (m : Nat) (ao : Option Addr) (n c : Nat) (p l cr k : Int) (w : World) (hp : (n : Int) ≤ p) (hR : Rdr w m (.slice ao n c) p l cr k) :
    Calls Try.prog 26 #[.pointer (some ⟨m, 0, none⟩)] w fun e w' => e = .returned (.tuple #[.int .i64 p, .int .i64 p, .int .i64 p, .bool false]) ∧ w' = w := by
  have hc0 := hR.c0
  have hc1 := hR.c1
  clear hR
  go_enter Try.func26, Try.ntmps26
  go_wp2
  refine bodyPost_ret (results_tmp4 rfl _ _ _) rfl ?_
  exact ⟨rfl, rfl⟩

set_option maxRecDepth 100000 in
set_option maxHeartbeats 4000000 in
theorem adv_any (m b n p : Nat) (xs : List Int) (l cr k : Int) (fl fc : Nat) (w : World) (hx : xs.length = n) (hn : n ≤ 1048576) (hp : p < n) (hb : Byt xs) (hbm : b < m) (hc : ∀ i, i < n → w.cell? ⟨b, i, none⟩ = some (.int .u8 (xs.getD i 0)))
    (hR : Rdr w m (.slice (some ⟨b, 0, none⟩) n n) p l cr k) (hfl : Fst xs p 10 fl) (hfc : Fst xs p 13 fc) (hl : l < p ∨ l = fl) (hcr : cr < p ∨ cr = fc) :
    Calls Try.prog 26 #[.pointer (some ⟨m, 0, none⟩)] w fun e w' => e = .returned (.tuple #[.int .i64 p, .int .i64 (min fl fc : Nat), .int .i64 (stopOf xs (min fl fc)), .bool true]) ∧ Rdr w' m (.slice (some ⟨b, 0, none⟩) n n) (stopOf xs (min fl fc)) fl fc (wrap64 (k + 1)) ∧ Below m w w' := by
  have hc0 := hR.c0
  have hc1 := hR.c1
  have hc2 := hR.c2
  have hc3 := hR.c3
  have hc4 := hR.c4
  have hf1 := hR.f 1
  have hf2 := hR.f 2
  have hf3 := hR.f 3
  have hf4 := hR.f 4
  have hlo1 := hfl.lo
  have hhi1 : fl ≤ n := by rw [← hx]; exact hfl.hi
  have hlo2 := hfc.lo
  have hhi2 : fc ≤ n := by rw [← hx]; exact hfc.hi
  have HK10 := hide (fun (w1 : World) hw => from_any b n p fl xs 10 w1 hx hn hp hb (by omega) hfl hw)
  have HK13 := hide (fun (w1 : World) hw => from_any b n p fc xs 13 w1 hx hn hp hb (by omega) hfc hw)
  have HR := hide hR
  have hcr' : ∀ (j : Nat) (v : Value) i, i < n → (w.setCell ⟨m, j, none⟩ v).cell? ⟨b, i, none⟩ = some (.int .u8 (xs.getD i 0)) := fun j v i hi => ((belset (Below.refl m w) j v).cell (by exact hbm)).trans (hc i hi)
  have HC := hide hc
  have HC2 := hide hcr'
  clear hc hcr' hb hR
  rcases (show (fl < fc) ∨ (fc < fl ∧ ¬ fc + 1 < n) ∨ (fc < fl ∧ fc + 1 < n ∧ xs.getD (fc + 1) 0 = 10) ∨ (fc < fl ∧ fc + 1 < n ∧ ¬ xs.getD (fc + 1) 0 = 10) ∨ (fl = n ∧ fc = n) from by
    by_cases e : fl = fc
    · by_cases hl2 : fl < n
      · have := hfl.hit (by omega); have := hfc.hit (by omega); subst e; omega
      · omega
    · omega) with hw | ⟨hw, hw2⟩ | ⟨hw, hw2, hw3⟩ | ⟨hw, hw2, hw3⟩ | ⟨rfl, rfl⟩
  · -- a line feed comes first
    have hmin : min fl fc = fl := by omega
    have hst : ((stopOf xs fl : Nat) : Int) = fl + 1 := by rw [stopOf_one (by omega) (fun h => by have := hfl.hit (by omega); omega)]; omega
    rw [hmin, hst]
    have hce := HC.out fl (by omega)
    rw [hfl.hit (by omega)] at hce
    clear hfl hfc hx hmin hst
    rcases hl with h1 | rfl <;> rcases hcr with h2 | rfl
    · go_enter Try.func26, Try.ntmps26
      go_wp2_with (first | (go_at_call_of 29 (Value.int IntKind.u8 10); refine (HK10.out _ (by exact HC.out)).mono ?_; rintro e w' ⟨rfl, hw⟩; have hw' := hw.symm; subst hw') | (go_at_call_of 29 (Value.int IntKind.u8 13); refine (HK13.out _ (by first | exact HC2.out _ _ | exact HC.out)).mono ?_; rintro e w' ⟨rfl, hw⟩; have hw' := hw.symm; subst hw'))
      go_quiet (fail)
      go_wp2
      refine bodyPost_ret (results_tmp4 rfl _ _ _) rfl ?_
      exact ⟨rfl, ((((HR.out.s2 _).s3 _).drewN _).s1 _).s4 _, belset (belset (below_drewN (belset (belset (Below.refl _ _) _ _) _ _) _) _ _) _ _⟩
    · go_enter Try.func26, Try.ntmps26
      go_wp2_with (first | (go_at_call_of 29 (Value.int IntKind.u8 10); refine (HK10.out _ (by exact HC.out)).mono ?_; rintro e w' ⟨rfl, hw⟩; have hw' := hw.symm; subst hw') | (go_at_call_of 29 (Value.int IntKind.u8 13); refine (HK13.out _ (by first | exact HC2.out _ _ | exact HC.out)).mono ?_; rintro e w' ⟨rfl, hw⟩; have hw' := hw.symm; subst hw'))
      go_quiet (fail)
      go_wp2
      refine bodyPost_ret (results_tmp4 rfl _ _ _) rfl ?_
      exact ⟨rfl, (((HR.out.s2 _).drewN _).s1 _).s4 _, belset (belset (below_drewN (belset (Below.refl _ _) _ _) _) _ _) _ _⟩
    · go_enter Try.func26, Try.ntmps26
      go_wp2_with (first | (go_at_call_of 29 (Value.int IntKind.u8 10); refine (HK10.out _ (by exact HC.out)).mono ?_; rintro e w' ⟨rfl, hw⟩; have hw' := hw.symm; subst hw') | (go_at_call_of 29 (Value.int IntKind.u8 13); refine (HK13.out _ (by first | exact HC2.out _ _ | exact HC.out)).mono ?_; rintro e w' ⟨rfl, hw⟩; have hw' := hw.symm; subst hw'))
      go_quiet (fail)
      go_wp2
      refine bodyPost_ret (results_tmp4 rfl _ _ _) rfl ?_
      exact ⟨rfl, (((HR.out.s3 _).drewN _).s1 _).s4 _, belset (belset (below_drewN (belset (Below.refl _ _) _ _) _) _ _) _ _⟩
    · go_enter Try.func26, Try.ntmps26
      go_wp2_with (first | (go_at_call_of 29 (Value.int IntKind.u8 10); refine (HK10.out _ (by exact HC.out)).mono ?_; rintro e w' ⟨rfl, hw⟩; have hw' := hw.symm; subst hw') | (go_at_call_of 29 (Value.int IntKind.u8 13); refine (HK13.out _ (by first | exact HC2.out _ _ | exact HC.out)).mono ?_; rintro e w' ⟨rfl, hw⟩; have hw' := hw.symm; subst hw'))
      go_quiet (fail)
      go_wp2
      refine bodyPost_ret (results_tmp4 rfl _ _ _) rfl ?_
      exact ⟨rfl, ((HR.out.drewN _).s1 _).s4 _, belset (belset (below_drewN (Below.refl _ _) _) _ _) _ _⟩
  · -- a carriage return, the last byte
    have hmin : min fl fc = fc := by omega
    have hst : ((stopOf xs fc : Nat) : Int) = fc + 1 := by rw [stopOf_one (by omega) (fun h => by omega)]; omega
    rw [hmin, hst]
    have hce := HC.out fc (by omega)
    rw [hfc.hit (by omega)] at hce
    clear hfl hfc hx hmin hst
    rcases hl with h1 | rfl <;> rcases hcr with h2 | rfl
    · go_enter Try.func26, Try.ntmps26
      go_wp2_with (first | (go_at_call_of 29 (Value.int IntKind.u8 10); refine (HK10.out _ (by exact HC.out)).mono ?_; rintro e w' ⟨rfl, hw⟩; have hw' := hw.symm; subst hw') | (go_at_call_of 29 (Value.int IntKind.u8 13); refine (HK13.out _ (by first | exact HC2.out _ _ | exact HC.out)).mono ?_; rintro e w' ⟨rfl, hw⟩; have hw' := hw.symm; subst hw'))
      go_quiet (fail)
      go_wp2
      refine bodyPost_ret (results_tmp4 rfl _ _ _) rfl ?_
      exact ⟨rfl, ((((HR.out.s2 _).s3 _).drewN _).s1 _).s4 _, belset (belset (below_drewN (belset (belset (Below.refl _ _) _ _) _ _) _) _ _) _ _⟩
    · go_enter Try.func26, Try.ntmps26
      go_wp2_with (first | (go_at_call_of 29 (Value.int IntKind.u8 10); refine (HK10.out _ (by exact HC.out)).mono ?_; rintro e w' ⟨rfl, hw⟩; have hw' := hw.symm; subst hw') | (go_at_call_of 29 (Value.int IntKind.u8 13); refine (HK13.out _ (by first | exact HC2.out _ _ | exact HC.out)).mono ?_; rintro e w' ⟨rfl, hw⟩; have hw' := hw.symm; subst hw'))
      go_quiet (fail)
      go_wp2
      refine bodyPost_ret (results_tmp4 rfl _ _ _) rfl ?_
      exact ⟨rfl, (((HR.out.s2 _).drewN _).s1 _).s4 _, belset (belset (below_drewN (belset (Below.refl _ _) _ _) _) _ _) _ _⟩
    · go_enter Try.func26, Try.ntmps26
      go_wp2_with (first | (go_at_call_of 29 (Value.int IntKind.u8 10); refine (HK10.out _ (by exact HC.out)).mono ?_; rintro e w' ⟨rfl, hw⟩; have hw' := hw.symm; subst hw') | (go_at_call_of 29 (Value.int IntKind.u8 13); refine (HK13.out _ (by first | exact HC2.out _ _ | exact HC.out)).mono ?_; rintro e w' ⟨rfl, hw⟩; have hw' := hw.symm; subst hw'))
      go_quiet (fail)
      go_wp2
      refine bodyPost_ret (results_tmp4 rfl _ _ _) rfl ?_
      exact ⟨rfl, (((HR.out.s3 _).drewN _).s1 _).s4 _, belset (belset (below_drewN (belset (Below.refl _ _) _ _) _) _ _) _ _⟩
    · go_enter Try.func26, Try.ntmps26
      go_wp2_with (first | (go_at_call_of 29 (Value.int IntKind.u8 10); refine (HK10.out _ (by exact HC.out)).mono ?_; rintro e w' ⟨rfl, hw⟩; have hw' := hw.symm; subst hw') | (go_at_call_of 29 (Value.int IntKind.u8 13); refine (HK13.out _ (by first | exact HC2.out _ _ | exact HC.out)).mono ?_; rintro e w' ⟨rfl, hw⟩; have hw' := hw.symm; subst hw'))
      go_quiet (fail)
      go_wp2
      refine bodyPost_ret (results_tmp4 rfl _ _ _) rfl ?_
      exact ⟨rfl, ((HR.out.drewN _).s1 _).s4 _, belset (belset (below_drewN (Below.refl _ _) _) _ _) _ _⟩
  · -- a carriage return and a line feed
    have hmin : min fl fc = fc := by omega
    have hst : ((stopOf xs fc : Nat) : Int) = fc + 1 + 1 := by rw [stopOf_two (by omega) (hfc.hit (by omega)) (by omega) hw3]; omega
    rw [hmin, hst]
    have hce := HC.out fc (by omega)
    rw [hfc.hit (by omega)] at hce
    have hce2 := HC.out (fc + 1) (by omega)
    rw [hw3] at hce2
    clear hfl hfc hx hmin hst hw3
    rcases hl with h1 | rfl <;> rcases hcr with h2 | rfl
    · go_enter Try.func26, Try.ntmps26
      go_wp2_with (first | (go_at_call_of 29 (Value.int IntKind.u8 10); refine (HK10.out _ (by exact HC.out)).mono ?_; rintro e w' ⟨rfl, hw⟩; have hw' := hw.symm; subst hw') | (go_at_call_of 29 (Value.int IntKind.u8 13); refine (HK13.out _ (by first | exact HC2.out _ _ | exact HC.out)).mono ?_; rintro e w' ⟨rfl, hw⟩; have hw' := hw.symm; subst hw'))
      go_quiet (fail)
      go_wp2
      refine bodyPost_ret (results_tmp4 rfl _ _ _) rfl ?_
      exact ⟨rfl, ((((HR.out.s2 _).s3 _).drewN _).s1 _).s4 _, belset (belset (below_drewN (belset (belset (Below.refl _ _) _ _) _ _) _) _ _) _ _⟩
    · go_enter Try.func26, Try.ntmps26
      go_wp2_with (first | (go_at_call_of 29 (Value.int IntKind.u8 10); refine (HK10.out _ (by exact HC.out)).mono ?_; rintro e w' ⟨rfl, hw⟩; have hw' := hw.symm; subst hw') | (go_at_call_of 29 (Value.int IntKind.u8 13); refine (HK13.out _ (by first | exact HC2.out _ _ | exact HC.out)).mono ?_; rintro e w' ⟨rfl, hw⟩; have hw' := hw.symm; subst hw'))
      go_quiet (fail)
      go_wp2
      refine bodyPost_ret (results_tmp4 rfl _ _ _) rfl ?_
      exact ⟨rfl, (((HR.out.s2 _).drewN _).s1 _).s4 _, belset (belset (below_drewN (belset (Below.refl _ _) _ _) _) _ _) _ _⟩
    · go_enter Try.func26, Try.ntmps26
      go_wp2_with (first | (go_at_call_of 29 (Value.int IntKind.u8 10); refine (HK10.out _ (by exact HC.out)).mono ?_; rintro e w' ⟨rfl, hw⟩; have hw' := hw.symm; subst hw') | (go_at_call_of 29 (Value.int IntKind.u8 13); refine (HK13.out _ (by first | exact HC2.out _ _ | exact HC.out)).mono ?_; rintro e w' ⟨rfl, hw⟩; have hw' := hw.symm; subst hw'))
      go_quiet (fail)
      go_wp2
      refine bodyPost_ret (results_tmp4 rfl _ _ _) rfl ?_
      exact ⟨rfl, (((HR.out.s3 _).drewN _).s1 _).s4 _, belset (belset (below_drewN (belset (Below.refl _ _) _ _) _) _ _) _ _⟩
    · go_enter Try.func26, Try.ntmps26
      go_wp2_with (first | (go_at_call_of 29 (Value.int IntKind.u8 10); refine (HK10.out _ (by exact HC.out)).mono ?_; rintro e w' ⟨rfl, hw⟩; have hw' := hw.symm; subst hw') | (go_at_call_of 29 (Value.int IntKind.u8 13); refine (HK13.out _ (by first | exact HC2.out _ _ | exact HC.out)).mono ?_; rintro e w' ⟨rfl, hw⟩; have hw' := hw.symm; subst hw'))
      go_quiet (fail)
      go_wp2
      refine bodyPost_ret (results_tmp4 rfl _ _ _) rfl ?_
      exact ⟨rfl, ((HR.out.drewN _).s1 _).s4 _, belset (belset (below_drewN (Below.refl _ _) _) _ _) _ _⟩
  · -- a carriage return and another byte
    have hmin : min fl fc = fc := by omega
    have hst : ((stopOf xs fc : Nat) : Int) = fc + 1 := by rw [stopOf_one (by omega) (fun h => by omega)]; omega
    rw [hmin, hst]
    have hce := HC.out fc (by omega)
    rw [hfc.hit (by omega)] at hce
    have hce2 := HC.out (fc + 1) (by omega)
    obtain ⟨y, hy⟩ : ∃ y, xs.getD (fc + 1) 0 = y := ⟨_, rfl⟩
    rw [hy] at hce2 hw3
    have hy2 : (y == 10) = false := by simpa using hw3
    clear hfl hfc hx hmin hst hw3 hy
    rcases hl with h1 | rfl <;> rcases hcr with h2 | rfl
    · go_enter Try.func26, Try.ntmps26
      go_wp2_with (first | (go_at_call_of 29 (Value.int IntKind.u8 10); refine (HK10.out _ (by exact HC.out)).mono ?_; rintro e w' ⟨rfl, hw⟩; have hw' := hw.symm; subst hw') | (go_at_call_of 29 (Value.int IntKind.u8 13); refine (HK13.out _ (by first | exact HC2.out _ _ | exact HC.out)).mono ?_; rintro e w' ⟨rfl, hw⟩; have hw' := hw.symm; subst hw'))
      go_quiet (fail)
      go_wp2
      refine bodyPost_ret (results_tmp4 rfl _ _ _) rfl ?_
      exact ⟨rfl, ((((HR.out.s2 _).s3 _).drewN _).s1 _).s4 _, belset (belset (below_drewN (belset (belset (Below.refl _ _) _ _) _ _) _) _ _) _ _⟩
    · go_enter Try.func26, Try.ntmps26
      go_wp2_with (first | (go_at_call_of 29 (Value.int IntKind.u8 10); refine (HK10.out _ (by exact HC.out)).mono ?_; rintro e w' ⟨rfl, hw⟩; have hw' := hw.symm; subst hw') | (go_at_call_of 29 (Value.int IntKind.u8 13); refine (HK13.out _ (by first | exact HC2.out _ _ | exact HC.out)).mono ?_; rintro e w' ⟨rfl, hw⟩; have hw' := hw.symm; subst hw'))
      go_quiet (fail)
      go_wp2
      refine bodyPost_ret (results_tmp4 rfl _ _ _) rfl ?_
      exact ⟨rfl, (((HR.out.s2 _).drewN _).s1 _).s4 _, belset (belset (below_drewN (belset (Below.refl _ _) _ _) _) _ _) _ _⟩
    · go_enter Try.func26, Try.ntmps26
      go_wp2_with (first | (go_at_call_of 29 (Value.int IntKind.u8 10); refine (HK10.out _ (by exact HC.out)).mono ?_; rintro e w' ⟨rfl, hw⟩; have hw' := hw.symm; subst hw') | (go_at_call_of 29 (Value.int IntKind.u8 13); refine (HK13.out _ (by first | exact HC2.out _ _ | exact HC.out)).mono ?_; rintro e w' ⟨rfl, hw⟩; have hw' := hw.symm; subst hw'))
      go_quiet (fail)
      go_wp2
      refine bodyPost_ret (results_tmp4 rfl _ _ _) rfl ?_
      exact ⟨rfl, (((HR.out.s3 _).drewN _).s1 _).s4 _, belset (belset (below_drewN (belset (Below.refl _ _) _ _) _) _ _) _ _⟩
    · go_enter Try.func26, Try.ntmps26
      go_wp2_with (first | (go_at_call_of 29 (Value.int IntKind.u8 10); refine (HK10.out _ (by exact HC.out)).mono ?_; rintro e w' ⟨rfl, hw⟩; have hw' := hw.symm; subst hw') | (go_at_call_of 29 (Value.int IntKind.u8 13); refine (HK13.out _ (by first | exact HC2.out _ _ | exact HC.out)).mono ?_; rintro e w' ⟨rfl, hw⟩; have hw' := hw.symm; subst hw'))
      go_quiet (fail)
      go_wp2
      refine bodyPost_ret (results_tmp4 rfl _ _ _) rfl ?_
      exact ⟨rfl, ((HR.out.drewN _).s1 _).s4 _, belset (belset (below_drewN (Below.refl _ _) _) _ _) _ _⟩
  · -- no terminator
    have hmin : min fc fc = fc := by omega
    have hst : ((stopOf xs fc : Nat) : Int) = fc := by rw [stopOf_end (by omega)]
    rw [hmin, hst]
    clear hfl hfc hx hmin hst
    rcases hl with h1 | rfl <;> rcases hcr with h2 | rfl
    · go_enter Try.func26, Try.ntmps26
      go_wp2_with (first | (go_at_call_of 29 (Value.int IntKind.u8 10); refine (HK10.out _ (by exact HC.out)).mono ?_; rintro e w' ⟨rfl, hw⟩; have hw' := hw.symm; subst hw') | (go_at_call_of 29 (Value.int IntKind.u8 13); refine (HK13.out _ (by first | exact HC2.out _ _ | exact HC.out)).mono ?_; rintro e w' ⟨rfl, hw⟩; have hw' := hw.symm; subst hw'))
      go_quiet (fail)
      go_wp2
      refine bodyPost_ret (results_tmp4 rfl _ _ _) rfl ?_
      exact ⟨rfl, ((((HR.out.s2 _).s3 _).drewN _).s1 _).s4 _, belset (belset (below_drewN (belset (belset (Below.refl _ _) _ _) _ _) _) _ _) _ _⟩
    · go_enter Try.func26, Try.ntmps26
      go_wp2_with (first | (go_at_call_of 29 (Value.int IntKind.u8 10); refine (HK10.out _ (by exact HC.out)).mono ?_; rintro e w' ⟨rfl, hw⟩; have hw' := hw.symm; subst hw') | (go_at_call_of 29 (Value.int IntKind.u8 13); refine (HK13.out _ (by first | exact HC2.out _ _ | exact HC.out)).mono ?_; rintro e w' ⟨rfl, hw⟩; have hw' := hw.symm; subst hw'))
      go_quiet (fail)
      go_wp2
      refine bodyPost_ret (results_tmp4 rfl _ _ _) rfl ?_
      exact ⟨rfl, (((HR.out.s2 _).drewN _).s1 _).s4 _, belset (belset (below_drewN (belset (Below.refl _ _) _ _) _) _ _) _ _⟩
    · go_enter Try.func26, Try.ntmps26
      go_wp2_with (first | (go_at_call_of 29 (Value.int IntKind.u8 10); refine (HK10.out _ (by exact HC.out)).mono ?_; rintro e w' ⟨rfl, hw⟩; have hw' := hw.symm; subst hw') | (go_at_call_of 29 (Value.int IntKind.u8 13); refine (HK13.out _ (by first | exact HC2.out _ _ | exact HC.out)).mono ?_; rintro e w' ⟨rfl, hw⟩; have hw' := hw.symm; subst hw'))
      go_quiet (fail)
      go_wp2
      refine bodyPost_ret (results_tmp4 rfl _ _ _) rfl ?_
      exact ⟨rfl, (((HR.out.s3 _).drewN _).s1 _).s4 _, belset (belset (below_drewN (belset (Below.refl _ _) _ _) _) _ _) _ _⟩
    · go_enter Try.func26, Try.ntmps26
      go_wp2_with (first | (go_at_call_of 29 (Value.int IntKind.u8 10); refine (HK10.out _ (by exact HC.out)).mono ?_; rintro e w' ⟨rfl, hw⟩; have hw' := hw.symm; subst hw') | (go_at_call_of 29 (Value.int IntKind.u8 13); refine (HK13.out _ (by first | exact HC2.out _ _ | exact HC.out)).mono ?_; rintro e w' ⟨rfl, hw⟩; have hw' := hw.symm; subst hw'))
      go_quiet (fail)
      go_wp2
      refine bodyPost_ret (results_tmp4 rfl _ _ _) rfl ?_
      exact ⟨rfl, ((HR.out.drewN _).s1 _).s4 _, belset (belset (below_drewN (Below.refl _ _) _) _ _) _ _⟩
end Go.Proofs.Qxb6603146a.Ad

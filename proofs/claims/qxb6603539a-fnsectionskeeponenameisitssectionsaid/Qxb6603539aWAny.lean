import Derived.Test.Qxb6603539aShelf
import Derived.Test.Qxb6603539aWStrI
import Derived.Laws.RangeAny
import Derived.Lib.OthersKept
import Derived.LoopN
import Derived.WalkKit
import Derived.WalkSpells
import Derived.Deep.QuietTactic
import Derived.BigQuiet
import Derived.WalkMore
import Derived.Deep.RegionWith
namespace Go.Proofs.Qxb6603539a.Ds
open Go.RowKit

/-- The separators. -/
def seps : ByteArray := ⟨#[61, 58]⟩

theorem decode_wide (s : ByteArray) (pos : Nat) (h : pos < s.size) (ha : 128 ≤ (s[pos]'h).toNat) :
    128 ≤ (Utf8.decode s pos).1 ∧ ((Utf8.decode s pos).1 < 55296 ∨ (57343 < (Utf8.decode s pos).1 ∧ (Utf8.decode s pos).1 ≤ 1114111)) ∧ 1 ≤ (Utf8.decode s pos).2 ∧ pos + (Utf8.decode s pos).2 ≤ s.size ∧ ∀ k, k < (Utf8.decode s pos).2 → 128 ≤ (s.get! (pos + k)).toNat := by
  have h0 : s.get! (pos + 0) = s[pos]'h := get_at s pos h
  have hb : ∀ k, (s.get! (pos + k)).toNat < 256 := fun k => (s.get! (pos + k)).toNat_lt
  have b0 := hb 0; have b1 := hb 1; have b2 := hb 2; have b3 := hb 3
  have hk0 : ∀ k, k < 1 → 128 ≤ (s.get! (pos + k)).toNat := fun k hk => by
    obtain rfl : k = 0 := by omega
    rw [h0]; exact ha
  have hn : ¬ (s.get! (pos + 0)).toNat < 128 := by rw [h0]; omega
  simp only [Utf8.decode, hn, if_false]
  repeat' split
  all_goals simp only [Bool.and_eq_true, beq_iff_eq, decide_eq_true_eq, Utf8.valid, Bool.or_eq_true, ge_iff_le] at *
  · refine ⟨by omega, .inl (by omega), by omega, by omega, fun k hk => ?_⟩
    have hk' : k = 0 ∨ k = 1 := by omega
    rcases hk' with rfl | rfl
    · exact hk0 0 (by omega)
    · omega
  · exact ⟨by decide, by decide, by omega, by omega, hk0⟩
  · refine ⟨by omega, by omega, by omega, by omega, fun k hk => ?_⟩
    have hk' : k = 0 ∨ k = 1 ∨ k = 2 := by omega
    rcases hk' with rfl | rfl | rfl
    · exact hk0 0 (by omega)
    · omega
    · omega
  · exact ⟨by decide, by decide, by omega, by omega, hk0⟩
  · refine ⟨by omega, by omega, by omega, by omega, fun k hk => ?_⟩
    have hk' : k = 0 ∨ k = 1 ∨ k = 2 ∨ k = 3 := by omega
    rcases hk' with rfl | rfl | rfl | rfl
    · exact hk0 0 (by omega)
    · omega
    · omega
    · omega
  · exact ⟨by decide, by decide, by omega, by omega, hk0⟩
  · exact ⟨by decide, by decide, by omega, by omega, hk0⟩

theorem below_drewN {B : Nat} {w w' : World} (h : Below B w w') (m : Nat) : Below B w (w'.drewN m) := ⟨h.os, h.tape, h.output, h.size, h.block⟩

theorem encode_two (r : Int) (h0 : 128 ≤ r) (h1 : r < 2048) : ∃ a b : UInt8, Utf8.encode r = ⟨#[a, b]⟩ ∧ 128 ≤ b.toNat := by
  have hv : Utf8.valid r = true := by simp [Utf8.valid]; omega
  have e1 : ¬ r.toNat < 128 := by omega
  have e2 : r.toNat < 2048 := by omega
  refine ⟨UInt8.ofNat (192 + r.toNat / 64), UInt8.ofNat (128 + r.toNat % 64), by simp only [Utf8.encode, hv, if_true, e1, e2, if_false], ?_⟩
  simp
  omega
theorem encode_more (r : Int) (h0 : 2048 ≤ r) (hv : r < 55296 ∨ (57343 < r ∧ r ≤ 1114111)) : (Utf8.encode r).size = 3 ∨ (Utf8.encode r).size = 4 := by
  have hv : Utf8.valid r = true := by simp [Utf8.valid]; omega
  have e1 : ¬ r.toNat < 128 := by omega
  have e2 : ¬ r.toNat < 2048 := by omega
  by_cases e3 : r.toNat < 65536
  · left; simp only [Utf8.encode, hv, if_true, e1, e2, e3, if_false]; rfl
  · right; simp only [Utf8.encode, hv, if_true, e1, e2, e3, if_false]; rfl

set_option maxRecDepth 100000 in
set_option maxHeartbeats 2000000 in
theorem rune_more (r : Int) (w : World) (h0 : 2048 ≤ r) (hv : r < 55296 ∨ (57343 < r ∧ r ≤ 1114111)) (hne : r ≠ 65533) : Calls Try.prog 70 #[.string seps, .int .i32 r] w fun e w' => e = .returned (.int .i64 (-1)) ∧ Below w.heap.size w w' := by
  have t1 : (r == 65533) = false := by simpa using hne
  have h1 : ¬ r < 128 := by omega
  have h2 : (0 : Int) ≤ r := by omega
  have HV := hide (Try.utf8_ValidRune r)
  have hvr : Lib.validRune r = true := by unfold Lib.validRune; simp; omega
  rw [hvr] at HV
  have hsz := encode_more r h0 hv
  obtain ⟨en, hen⟩ : ∃ en, Utf8.encode r = en := ⟨_, rfl⟩
  rw [hen] at hsz
  clear hv
  unfold seps
  rcases hsz with hsz | hsz
  all_goals
    go_enter Try.func70, Try.ntmps70
    go_wp2_with (go_at_call 77; refine (HV.out _).mono ?_; rintro e w' ⟨rfl, hw⟩; have hw' := hw.symm; subst hw')
    go_step3
    go_wp2
    refine wp_loop_rounds 1 ?_
    rw [rounds_succ]
    go_wp2
    rw [Exit.noGoto_ret]
    go_ret
    exact ⟨rfl, Below.refl _ _⟩

set_option maxRecDepth 100000 in
set_option maxHeartbeats 2000000 in
theorem rune_two (r : Int) (w : World) (h0 : 128 ≤ r) (hv : r < 2048) : Calls Try.prog 70 #[.string seps, .int .i32 r] w fun e w' => e = .returned (.int .i64 (-1)) ∧ Below w.heap.size w w' := by
  have t1 : (r == 65533) = false := by simp; omega
  have h1 : ¬ r < 128 := by omega
  have h2 : (0 : Int) ≤ r := by omega
  have HV := hide (Try.utf8_ValidRune r)
  have hvr : Lib.validRune r = true := by unfold Lib.validRune; simp; omega
  rw [hvr] at HV
  obtain ⟨a, b, hen0, hb⟩ := encode_two r h0 hv
  obtain ⟨en, hen⟩ : ∃ en, Utf8.encode r = en := ⟨_, rfl⟩
  have hsz : en.size = 2 := by rw [← hen, hen0]; rfl
  have hbt : bt en 1 = (b.toNat : Int) := by rw [← hen, hen0]; rfl
  have hE := bt_eq en 1 (by omega)
  rw [hbt] at hE
  obtain ⟨y, hy⟩ : ∃ y : Int, (b.toNat : Int) = y := ⟨_, rfl⟩
  rw [hy] at hE
  clear hen0 hbt
  have HIB : Hid (∀ (c : Int) (w : World), Calls Try.prog 75 #[.string ByteArray.empty, .int .u8 c] w fun e w' => e = .returned (.int .i64 (-1)) ∧ w' = w) := fun c w => (Try.strings_IndexByte ByteArray.empty c w).mono (fun e w' h => ⟨by rw [h.1]; rfl, h.2⟩)
  have hw2 : IntKind.i64.wrap 2 = 2 := by decide
  have hbn : ((58 : Int) != y) = true := by simp; omega
  have h58 := bt_eq seps 1 (by decide)
  rw [show bt seps 1 = 58 from rfl] at h58
  unfold seps at h58
  clear hy hb
  clear hv hvr
  unfold seps
  go_enter Try.func70, Try.ntmps70
  go_wp2_with (go_at_call 77; refine (HV.out _).mono ?_; rintro e w' ⟨rfl, hw⟩; have hw' := hw.symm; subst hw')
  go_step3
  go_wp2
  refine wp_loop_rounds 1 ?_
  rw [rounds_succ]
  go_wp2
  go_step3
  go_wp2
  go_quiet (fail)
  go_wp2
  go_region_with (go_at_call 75; refine (HIB.out _ _).mono ?_; rintro e w' ⟨rfl, rfl⟩)
  all_goals
    go_wp2
    simp only [Exit.noGoto_ret, Exit.inBlock, Exit.then]
    go_ret
    exact ⟨rfl, below_drewN (Below.refl _ _) _⟩

set_option maxRecDepth 100000 in
set_option maxHeartbeats 2000000 in
theorem rune_err (w : World) : Calls Try.prog 70 #[.string seps, .int .i32 65533] w fun e w' => e = .returned (.int .i64 (-1)) ∧ Below w.heap.size w w' := by
  have n0 := fun ty => run_next_ascii (P := Try.prog) w seps 0 ty (by decide) (by decide)
  have n1 := fun ty => run_next_ascii (P := Try.prog) w seps 1 ty (by decide) (by decide)
  have n2 := fun ty => run_next_end (P := Try.prog) w seps 2 ty (by decide)
  rw [show ((seps[0]'(by decide)).toNat : Int) = 61 from rfl] at n0
  rw [show ((seps[1]'(by decide)).toNat : Int) = 58 from rfl] at n1
  have hB : Hid (Below w.heap.size w (w.iter seps 2)) := (Below.refl _ w).alloc (Nat.le_refl _) _
  have hs : seps.size = 2 := rfl
  generalize seps = sp at n0 n1 n2 hB hs ⊢
  go_enter Try.func70, Try.ntmps70
  go_wp2
  refine wp_loop_rounds 3 ?_
  rw [rounds_succ]
  go_wp2
  rw [rounds_succ]
  go_wp2
  rw [rounds_succ]
  go_wp2
  go_ret
  exact ⟨rfl, hB.out⟩

/-- IndexRune of a rune that is no byte: not among the separators. -/
theorem rune_any (r : Int) (w : World) (h0 : 128 ≤ r) (hv : r < 55296 ∨ (57343 < r ∧ r ≤ 1114111)) : Calls Try.prog 70 #[.string seps, .int .i32 r] w fun e w' => e = .returned (.int .i64 (-1)) ∧ Below w.heap.size w w' := by
  by_cases he : r = 65533
  · subst he; exact rune_err w
  · by_cases h2 : r < 2048
    · exact rune_two r w h0 h2
    · exact rune_more r w (by omega) hv he

/-- The first separator; the text's length where there is none. -/
def sep (s : ByteArray) : Nat := upto (fun i => decide (bt s i ≠ 61) && decide (bt s i ≠ 58)) s.size 0
theorem sep_le (s : ByteArray) : sep s ≤ s.size := by have := upto_hi (fun i => decide (bt s i ≠ 61) && decide (bt s i ≠ 58)) s.size 0; unfold sep; omega
theorem sep_in (s : ByteArray) (i : Nat) (h : i < sep s) : bt s i ≠ 61 ∧ bt s i ≠ 58 := by
  have := upto_in (fun i => decide (bt s i ≠ 61) && decide (bt s i ≠ 58)) s.size 0 i (Nat.zero_le _) h
  simpa using this
end Go.Proofs.Qxb6603539a.Ds

import Derived.Test.Qxb6603539aWAny
import Derived.Deep.LoopGhost
namespace Go.Proofs.Qxb6603539a.Ds
open Go.RowKit

/-- What IndexAny answers. -/
def sepI (s : ByteArray) : Int := if sep s < s.size then (sep s : Int) else -1
theorem sep_hit (s : ByteArray) (h : sep s < s.size) : bt s (sep s) = 61 ∨ bt s (sep s) = 58 := by
  have := upto_end (fun i => decide (bt s i ≠ 61) && decide (bt s i ≠ 58)) s.size 0 (by unfold sep at h; omega)
  have e : upto (fun i => decide (bt s i ≠ 61) && decide (bt s i ≠ 58)) s.size 0 = sep s := rfl
  rw [e] at this
  simp only [Bool.and_eq_false_iff, decide_eq_false_iff_not, ne_eq, Decidable.not_not] at this
  exact this
theorem sep_is {s : ByteArray} {i : Nat} (h : i < s.size) (hb : ∀ j, j < i → bt s j ≠ 61 ∧ bt s j ≠ 58) (hi : bt s i = 61 ∨ bt s i = 58) : sep s = i := by
  have h1 : ¬ i < sep s := fun e => by have := sep_in s i e; omega
  have h2 : ¬ sep s < i := fun e => by have := sep_hit s (by omega); have := hb _ e; omega
  omega
theorem sep_no {s : ByteArray} (hb : ∀ j, j < s.size → bt s j ≠ 61 ∧ bt s j ≠ 58) : ¬ sep s < s.size := fun h => by
  have := sep_hit s h; have := hb _ h; omega
theorem below_iterAt {B k : Nat} {w W : World} (h : Below B w W) (hk : B ≤ k) (s : ByteArray) (p : Nat) : Below B w (W.iterAt k s p) :=
  ⟨h.os, h.tape, h.output, by simpa [World.iterAt] using h.size, fun i hi => by
    have := h.block i hi
    simp only [World.iterAt]
    rw [Array.getElem?_setIfInBounds_ne (by omega)]; exact this⟩

theorem seps_ascii (c : Int) (w : World) (h0 : 0 ≤ c) (h1 : c < 128) : Calls Try.prog 70 #[.string seps, .int .i32 c] w fun e w' => e = .returned (.int .i64 (if c = 61 then 0 else if c = 58 then 1 else -1)) ∧ Below w.heap.size w w' := by
  refine (Try.strings_IndexRune_ascii seps c w h0 h1).mono ?_
  rintro e w' ⟨rfl, rfl⟩
  refine ⟨ret_int ?_, Below.refl _ _⟩
  have hc : c.toNat.toUInt8.toNat = c.toNat := by simp; omega
  by_cases e1 : c = 61
  · subst e1; rfl
  · by_cases e2 : c = 58
    · subst e2; rfl
    · rw [if_neg e1, if_neg e2]
      have h3 : ¬ (61 : UInt8) = c.toNat.toUInt8 := fun e => by have := congrArg UInt8.toNat e; rw [hc] at this; simp at this; omega
      have h4 : ¬ (58 : UInt8) = c.toNat.toUInt8 := fun e => by have := congrArg UInt8.toNat e; rw [hc] at this; simp at this; omega
      show Lib.indexByte [61, 58] c.toNat.toUInt8 = -1
      simp [Lib.indexByte, h3, h4]

set_option maxHeartbeats 2000000 in
theorem any_short (s : ByteArray) (w : World) (h8 : s.size ≤ 8) : Calls Try.prog 61 #[.string s, .string seps] w fun e w' => e = .returned (.int .i64 (sepI s)) ∧ Below w.heap.size w w' := by
  have hss : seps.size = 2 := rfl
  have hse : seps.toList.isEmpty = false := by rw [ByteArray.toList_eq]; rfl
  have HSU := hide (Try.strings_shouldUseASCIISet (s.size : Int))
  have h8z : decide ((8 : Int) < (s.size : Int)) = false := decide_eq_false (by omega)
  rw [h8z] at HSU
  have HB0 : Hid (Below w.heap.size w (w.iter s 0)) := (Below.refl _ w).alloc (Nat.le_refl _) _
  have HK0 : Hid ((w.iter s 0).heap[w.heap.size]? = some (.stringIter s 0)) := World.iter_heap w s 0
  have HAS := hide seps_ascii
  have HWD := hide rune_any
  generalize seps = sp at hss hse HAS HWD ⊢
  obtain ⟨B, hB⟩ : ∃ B, w.heap.size = B := ⟨_, rfl⟩
  go_enter Try.func61, Try.ntmps61
  go_wp2_with (go_at_call 71; refine (HSU.out _).mono ?_; rintro e w' ⟨rfl, hw⟩; have hw' := hw.symm; subst hw')
  rw [hB] at HB0 HK0
  go_loopg [9, 10] s.size (fun g _ _ wx => ∃ i : Nat, i + g = s.size ∧ Hid (wx.heap[B]? = some (.stringIter s i)) ∧ Hid (Below B w wx) ∧ Hid (∀ j, j < i → bt s j ≠ 61 ∧ bt s j ≠ 58))
  case atStart => exact ⟨0, by omega, HK0, HB0, fun j hj => absurd hj (Nat.not_lt_zero _)⟩
  case round =>
    obtain ⟨i, hig, HK, HBl, HN⟩ := hrel
    have hBW : B < wr.heap.size := (Array.getElem?_eq_some_iff.1 HK.out).1
    by_cases hlt : i < s.size
    · by_cases hasc : (s[i]'hlt).toNat < 128
      · have hnx := fun ty => Lib.run_next_ascii_at (P := Try.prog) wr B s i ty HK.out hlt hasc
        rw [bt_eq s i hlt] at hnx
        have hy0 := bt_bd s i
        have hy1 : bt s i < 128 := by rw [← bt_eq s i hlt]; omega
        have HK2 : Hid ((wr.iterAt B s (i + 1)).heap[B]? = some (.stringIter s (i + 1))) := by simp [Hid, World.iterAt, hBW]
        have HB2 : Hid (Below B w (wr.iterAt B s (i + 1))) := below_iterAt HBl.out (Nat.le_refl _) _ _
        have HSI : Hid ((bt s i = 61 ∨ bt s i = 58) → sepI s = i) := fun h => by unfold sepI; rw [sep_is hlt HN.out h, if_pos hlt]
        have HNX : Hid (¬ (bt s i = 61 ∨ bt s i = 58) → ∀ j, j < i + 1 → bt s j ≠ 61 ∧ bt s j ≠ 58) := fun h j hj => by
          by_cases e : j = i
          · subst e; omega
          · exact HN.out j (by omega)
        generalize wr.iterAt B s (i + 1) = Y at hnx HK2 HB2
        have HC := hide (HAS.out (bt s i) Y (by omega) hy1)
        generalize bt s i = y at hnx HC HSI HNX hy0 hy1
        clear HK HBl HN hasc
        by_cases hsep : y = 61 ∨ y = 58
        · have hr : ∃ q : Int, (if y = 61 then (0 : Int) else if y = 58 then 1 else -1) = q ∧ 0 ≤ q := by
            rcases hsep with rfl | rfl
            · exact ⟨0, by simp, by omega⟩
            · exact ⟨1, by simp, by omega⟩
          obtain ⟨q, hq, hq0⟩ := hr
          rw [hq] at HC
          have HS := hide (HSI.out hsep)
          clear hq hsep HSI HNX
          go_wp2_with (go_at_call 70; refine HC.out.mono ?_)
          rintro e W' ⟨rfl, hb⟩
          have HB3 := hide (HB2.out.trans (hb.mono (hB ▸ HB2.out.size)))
          clear hb
          go_wp2
          go_ret
          exact ⟨ret_int HS.out.symm, by rw [hB]; exact HB3.out⟩
        · have hr : (if y = 61 then (0 : Int) else if y = 58 then 1 else -1) = -1 := by rw [if_neg (by omega), if_neg (by omega)]
          rw [hr] at HC
          have HN2 := hide (HNX.out hsep)
          clear hr hsep HSI HNX
          go_wp2_with (go_at_call 70; refine HC.out.mono ?_)
          rintro e W' ⟨rfl, hb⟩
          have HB3 := hide (HB2.out.trans (hb.mono (hB ▸ HB2.out.size)))
          have HK3 := hide ((hb.block B (Array.getElem?_eq_some_iff.1 HK2.out).1).trans HK2.out)
          clear hb
          go_wp2
          go_roundg (s.size - (i + 1))
          case measure => omega
          case rel => exact ⟨i + 1, by omega, HK3, HB3, HN2⟩
      · have hd := decode_wide s i hlt (by omega)
        have hnx := fun ty => Lib.run_next_any_at (P := Try.prog) wr B s i ty HK.out hlt
        obtain ⟨r, hr⟩ : ∃ r : Nat, (Utf8.decode s i).1 = r := ⟨_, rfl⟩
        obtain ⟨u, hu⟩ : ∃ u : Nat, (Utf8.decode s i).2 = u := ⟨_, rfl⟩
        rw [hr, hu] at hnx hd
        obtain ⟨d1, d2, d3, d4, d5⟩ := hd
        have HN2 : Hid (∀ j, j < i + u → bt s j ≠ 61 ∧ bt s j ≠ 58) := fun j hj => by
          by_cases e : j < i
          · exact HN.out j e
          · have h1 := d5 (j - i) (by omega)
            rw [show i + (j - i) = j by omega] at h1
            have h2 : j < s.size := by omega
            have h3 : ((s.get! j).toNat : Int) = bt s j := by
              rw [← bt_eq s j h2]; have := get_at s j h2; rw [Nat.add_zero] at this; rw [this]
            omega
        have HK2 : Hid ((wr.iterAt B s (i + u)).heap[B]? = some (.stringIter s (i + u))) := by simp [Hid, World.iterAt, hBW]
        have HB2 : Hid (Below B w (wr.iterAt B s (i + u))) := below_iterAt HBl.out (Nat.le_refl _) _ _
        generalize wr.iterAt B s (i + u) = Y at hnx HK2 HB2
        have HC := hide (HWD.out (r : Int) Y (by omega) (by omega))
        clear HK HBl HN hasc hr hu d5
        go_wp2_with (go_at_call 70; refine HC.out.mono ?_)
        rintro e W' ⟨rfl, hb⟩
        have HB3 := hide (HB2.out.trans (hb.mono (hB ▸ HB2.out.size)))
        have HK3 := hide ((hb.block B (Array.getElem?_eq_some_iff.1 HK2.out).1).trans HK2.out)
        clear hb
        go_wp2
        go_roundg (s.size - (i + u))
        case measure => omega
        case rel => exact ⟨i + u, by omega, HK3, HB3, HN2⟩
    · obtain rfl : i = s.size := by omega
      have hnx := fun ty => Lib.run_next_end_at (P := Try.prog) wr B s s.size ty HK.out (by omega)
      have HS : Hid (sepI s = -1) := by unfold Hid sepI; rw [if_neg (sep_no HN.out)]
      go_wp2
      go_ret
      exact ⟨ret_int HS.out.symm, by rw [hB]; exact HBl.out⟩

theorem seps_has (s : ByteArray) (j : Nat) (h : j < s.size) : ([61, 58] : List UInt8).contains (s[j]'h) = (decide (bt s j = 61) || decide (bt s j = 58)) := by
  have h1 := bt_eq s j h
  have hu : ∀ n : UInt8, ((s[j]'h) == n) = decide (bt s j = (n.toNat : Int)) := fun n => by
    rw [← h1]
    by_cases e : s[j]'h = n
    · rw [e]; simp
    · have : ¬ ((s[j]'h).toNat : Int) = n.toNat := fun e2 => e (UInt8.toNat_inj.1 (by omega))
      simp [e, this]
  simp only [List.contains_cons, List.contains_nil, Bool.or_false, hu]
  rfl
theorem seps_at (s : ByteArray) (j : Nat) (b : UInt8) (h : s.data.toList[j]? = some b) : ∃ hj : j < s.size, b = s[j]'hj := by
  rw [Array.getElem?_toList] at h
  obtain ⟨h1, h2⟩ := Array.getElem?_eq_some_iff.1 h
  exact ⟨h1, h2.symm⟩
theorem idx_seps (s : ByteArray) : sepI s = Lib.indexAny s.data.toList seps.data.toList := by
  have hl : seps.data.toList = [61, 58] := rfl
  rw [hl]
  unfold sepI
  have hn : ∀ i, i ≤ sep s → Lib.NoAny s.data.toList [61, 58] i := fun i hi j b hj hb => by
    obtain ⟨h1, rfl⟩ := seps_at s j b hb
    rw [seps_has s j h1]
    have := sep_in s j (by omega)
    simp [this.1, this.2]
  by_cases h : sep s < s.size
  · rw [if_pos h]
    refine (Lib.indexAny_hit (x := s[sep s]'h) (hn _ (Nat.le_refl _)) ?_ ?_).symm
    · rw [Array.getElem?_toList]; exact Array.getElem?_eq_getElem h
    · rw [seps_has s _ h]
      rcases sep_hit s h with e | e <;> simp [e]
  · rw [if_neg h]
    have h2 := sep_le s
    exact (Lib.indexAny_none (hn _ (by have : s.data.toList.length = s.size := rfl; omega))).symm

theorem any_long (s : ByteArray) (w : World) (h8 : 8 < s.size) (hs : s.size ≤ 1048576) : Calls Try.prog 61 #[.string s, .string seps] w fun e w' => e = .returned (.int .i64 (sepI s)) ∧ Below w.heap.size w w' := by
  have hz : ∀ w, (zeroValue 139).run Try.prog w = .ok (.agg (Array.replicate 256 (.bool false))) w :=
    (zero_of_info (by kernel_rfl : (Try.prog.info? 139).map (fun i => (i.zero, i.size)) = some (some (.agg (Array.replicate 256 (.bool false))), 256))).1
  refine (Try.strings_IndexAny_long hz s seps w (by decide) h8 (by omega) (by decide) (fun j b hb => ?_)).mono ?_
  · have : seps.data.toList = [61, 58] := rfl
    rw [this] at hb
    rcases j with _ | _ | j <;> simp at hb <;> subst hb <;> decide
  rintro e w' ⟨rfl, rfl⟩
  refine ⟨ret_int ?_, ((Below.refl _ w).alloc (Nat.le_refl _) _).alloc (by simp) _⟩
  exact (idx_seps s).symm

theorem any_any (s : ByteArray) (w : World) (hs : s.size ≤ 1048576) : Calls Try.prog 61 #[.string s, .string seps] w fun e w' => e = .returned (.int .i64 (sepI s)) ∧ Below w.heap.size w w' := by
  by_cases h : s.size ≤ 8
  · exact any_short s w h
  · exact any_long s w (by omega) hs
end Go.Proofs.Qxb6603539a.Ds

/-
  The harness's own functions over lines: zzToLines, zzCloneLines.
-/
import Derived.Test.Qxb6603539aLines
import Derived.Test.Qxb6603539aProg
import Derived.WalkKit
import Derived.WalkSpells
import Derived.Deep.RegionLaw
import Derived.Deep.RegionHeld3
import Derived.Deep.QuietTactic
import Derived.BigQuiet
import Derived.Lib.SliceRun
namespace Go.Proofs.Qxb6603539a.Ds
open Go.RowKit

/-- The lines of the argument: at block zb, from cell zo on, three cells a line. -/
structure ZL (w : World) (zb zo : Nat) (ls : List Ln) : Prop where
  c0 : ∀ i, i < ls.length → w.cell? ⟨zb, zo + i * 3, none⟩ = some (.string (at' ls i).t)
  c1 : ∀ i, i < ls.length → w.cell? ⟨zb, zo + i * 3 + 1, none⟩ = some (.int .u8 (at' ls i).k)
  c2 : ∀ i, i < ls.length → w.cell? ⟨zb, zo + i * 3 + 2, none⟩ = some (.int .u8 (at' ls i).e)

theorem ZL.keep {w w' : World} {zb zo : Nat} {ls : List Ln} (h : ZL w zb zo ls) (hk : ∀ j, w'.cell? ⟨zb, j, none⟩ = w.cell? ⟨zb, j, none⟩) : ZL w' zb zo ls :=
  ⟨fun i hi => (hk _).trans (h.c0 i hi), fun i hi => (hk _).trans (h.c1 i hi), fun i hi => (hk _).trans (h.c2 i hi)⟩

theorem Holds.zl {w : World} {b : Nat} {L : List Ln} (h : Holds w b L) : ZL w b 0 L := by
  have hl := h.lies (Nat.le_refl _)
  rw [List.take_length] at hl
  exact ⟨fun i hi => by rw [Nat.zero_add]; exact hl.c0 i hi, fun i hi => by rw [Nat.zero_add]; exact hl.c1 i hi, fun i hi => by rw [Nat.zero_add]; exact hl.c2 i hi⟩

theorem flat_set : ∀ (L : List Ln) (i : Nat) (l : Ln), flat (L.set i l) = (((flat L).set (i * 3) (.string l.t)).set (i * 3 + 1) (.int .u8 l.k)).set (i * 3 + 2) (.int .u8 l.e)
  | [], i, l => by simp [flat]
  | x :: L, 0, l => by simp [flat]
  | x :: L, i + 1, l => by
    have e : (i + 1) * 3 = i * 3 + 3 := by omega
    rw [e, List.set_cons_succ]
    simp only [flat]
    rw [flat_set L i l]
    simp only [List.set_cons_succ]

theorem Holds.set {w : World} {b : Nat} {L : List Ln} (h : Holds w b L) (i : Nat) (l : Ln) : Holds (((w.setCell ⟨b, i * 3, none⟩ (.string l.t)).setCell ⟨b, i * 3 + 1, none⟩ (.int .u8 l.k)).setCell ⟨b, i * 3 + 2, none⟩ (.int .u8 l.e)) b (L.set i l) := by
  have h1 := heap_setCell_same w b (i * 3) _ _ (.string l.t) h
  have h2 := heap_setCell_same _ b (i * 3 + 1) _ _ (.int .u8 l.k) h1
  have h3 := heap_setCell_same _ b (i * 3 + 2) _ _ (.int .u8 l.e) h2
  unfold Holds
  rw [h3, flat_set]
  simp only [List.setIfInBounds_toArray]

theorem made_nul (n : Nat) : (madeCells #[.string ⟨#[]⟩, .int .u8 0, .int .u8 0] (n * 3)).toList = flat (List.replicate n nul) := by
  apply List.ext_getElem?
  intro j
  simp only [madeCells, Array.toList_map, Array.toList_range, List.getElem?_map]
  by_cases hj : j < n * 3
  · obtain ⟨i, r, hr, rfl⟩ : ∃ i r, r < 3 ∧ j = i * 3 + r := ⟨j / 3, j % 3, Nat.mod_lt _ (by omega), by omega⟩
    have hi : i < n := by omega
    have hl : i < (List.replicate n nul).length := by simpa using hi
    have ha : at' (List.replicate n nul) i = nul := by simp [at', List.getD, hi]
    have hm : (i * 3 + r) % 3 = r := by omega
    have e0 := flat_0 _ i hl
    have e1 := flat_1 _ i hl
    have e2 := flat_2 _ i hl
    rw [ha] at e0 e1 e2
    rw [List.getElem?_range hj]
    simp only [Option.map_some]
    rcases r with _ | _ | _ | r
    · simp only [Nat.add_zero]; rw [e0]; simp; rfl
    · rw [e1]; simp [hm]; rfl
    · rw [e2]; simp [hm]; rfl
    · omega
  · rw [List.getElem?_eq_none (by simpa using hj), List.getElem?_eq_none (by rw [flat_length]; simpa using hj)]; rfl

theorem own_holds {w : World} {base b n : Nat} {L : List Ln} (h : w.ownsRow base 38 3 (.slice (some ⟨b, 0, none⟩) n n) n (flat L)) : Holds w b L := by
  rcases h.2 with ⟨h1, _⟩ | ⟨g, cap, cur, h1, _, h3, _, _, h6, h7⟩
  · cases h1
  · obtain ⟨h1, _, rfl⟩ := Value.slice.inj h1
    cases h1
    rw [List.take_of_length_le (by rw [Array.length_toList, h6]; exact Nat.le_refl _)] at h7
    unfold Holds; rw [h3, ← h7]

theorem take_set {ls : List Ln} {i : Nat} (h : i < ls.length) : (ls.take i ++ List.replicate (ls.length - i) nul).set i (at' ls i) = ls.take (i + 1) ++ List.replicate (ls.length - (i + 1)) nul := by
  have e : ls.length - i = (ls.length - (i + 1)) + 1 := by omega
  rw [List.set_append_right _ _ (by simp; omega), e, List.replicate_succ]
  have h2 : i - (ls.take i).length = 0 := by simp; omega
  rw [h2, List.set_cons_zero, List.take_succ_eq_append_getElem h, List.append_assoc]
  congr 1
  simp [at', List.getD, h]

theorem Try.info38' : (Try.prog.info? 38).map (fun i => (i.zero, i.size, i.bytes)) = some (some (.agg #[.string ⟨#[]⟩, .int .u8 0, .int .u8 0]), 3, 24) := by kernel_rfl

theorem q22 (w : World) (a : Option Addr) (n c n' c' : Nat) : (binOp .eql 22 (.slice a n c) (.slice none n' c')).run Try.prog w = .ok (.bool a.isNone) w := Lib.run_eql_slice_nil w _ _ a n c n' c' Try.underlying22

theorem cell3 {W : World} {B zb i i' i'' j : Nat} {a b c : Value} (h : ¬ zb = B) : (((W.setCell ⟨B, i, none⟩ a).setCell ⟨B, i', none⟩ b).setCell ⟨B, i'', none⟩ c).cell? ⟨zb, j, none⟩ = W.cell? ⟨zb, j, none⟩ :=
  World.cell?_of_block (w := W) (((Below.heap_setCell _ _ _ _ (by exact h)).trans (Below.heap_setCell _ _ _ _ (by exact h))).trans (Below.heap_setCell _ _ _ _ (by exact h)))

theorem below3 {B i j k : Nat} {w wr : World} {a b c : Value} (h : Below B w wr) : Below B w (((wr.setCell ⟨B, i, none⟩ a).setCell ⟨B, j, none⟩ b).setCell ⟨B, k, none⟩ c) :=
  ((h.setCell (p := ⟨B, i, none⟩) (Nat.le_refl _) _).setCell (p := ⟨B, j, none⟩) (Nat.le_refl _) _).setCell (p := ⟨B, k, none⟩) (Nat.le_refl _) _

theorem tol_nil (n cap : Nat) (w : World) : Calls Try.prog 10 #[.slice none n cap] w fun e w' => e = .returned (.slice none 0 0) ∧ w' = w := by
  have q22 := q22
  go_enter Try.func10, Try.ntmps10
  go_wp2
  go_ret
  exact ⟨rfl, rfl⟩

set_option maxHeartbeats 4000000 in
theorem tol_some (x : Addr) (zb zo n cap : Nat) (ls : List Ln) (w : World) (hl : ls.length = n) (hn : n ≤ 1048576) (hx : 0 < n → x = ⟨zb, zo, none⟩) (hb : 0 < n → zb < w.heap.size) (hz : ZL w zb zo ls) :
    Calls Try.prog 10 #[.slice (some x) n cap] w fun e w' => e = .returned (.slice (some ⟨w.heap.size, 0, none⟩) n n) ∧ Holds w' w.heap.size ls ∧ Below w.heap.size w w' := by
  obtain ⟨i0, hi, hz0, hz1, hz2⟩ := info_parts Try.info38'
  have HZ := hide hz
  clear hz
  have q22 := q22
  go_enter Try.func10, Try.ntmps10
  go_wp2_with (at_make; refine wpList_make_full _ rfl _ _ 28 rfl w.heap.size 38 i0 (.agg #[.string ⟨#[]⟩, .int .u8 0, .int .u8 0]) 3 Try.underlying28 hi hz0 hz1 _ _ _ _ n rfl rfl rfl rfl (by rw [hz2]; omega) (by unfold maxLen; omega) (Nat.le_refl _) ?_; intro w1 hown hgr; have hh : Holds w1 w.heap.size (List.replicate n nul) := own_holds (by rw [← made_nul]; exact hown); have HH := hide hh; have HB : Hid (Below w.heap.size w w1) := (Below.refl _ _).grown hgr (Nat.le_refl _) (fun k e => by cases e); clear hh hown hgr)
  go_loopw [4] (fun ti wr => ∃ i : Nat, i ≤ n ∧ ti = .int .i64 i ∧ Hid (Holds wr w.heap.size (ls.take i ++ List.replicate (ls.length - i) nul)) ∧ Hid (Below w.heap.size w wr)) (fun ti _ => n - (intOf ti).toNat)
  case atStart => exact ⟨0, Nat.zero_le _, rfl, by rw [List.take_zero, List.nil_append, Nat.sub_zero, hl]; exact HH.out, HB.out⟩
  case round =>
    obtain ⟨i, hin, rfl, HHr, HBr⟩ := hrel
    by_cases hlt : i < n
    · obtain rfl := hx (by omega)
      have hbb := hb (by omega)
      have u0 := HBr.out.cell (p := ⟨zb, zo + i * 3, none⟩) hbb
      rw [HZ.out.c0 i (by omega)] at u0
      have u1 := HBr.out.cell (p := ⟨zb, zo + i * 3 + 1, none⟩) hbb
      rw [HZ.out.c1 i (by omega)] at u1
      have u2 := HBr.out.cell (p := ⟨zb, zo + i * 3 + 2, none⟩) hbb
      rw [HZ.out.c2 i (by omega)] at u2
      have hset := HHr.out.set i (at' ls i)
      rw [take_set (by omega)] at hset
      have HSet := hide hset
      have hd := HHr.out.zl
      have hdl : (ls.take i ++ List.replicate (ls.length - i) nul).length = n := by simp; omega
      have d0 := hd.c0 i (by omega)
      have d1 := hd.c1 i (by omega)
      have d2 := hd.c2 i (by omega)
      rw [Nat.zero_add] at d0 d1 d2
      have f0 : wr.frozen? ⟨w.heap.size, i * 3, none⟩ = false := frozen_of_row wr _ _ _ _ HHr.out
      have f1 : wr.frozen? ⟨w.heap.size, i * 3 + 1, none⟩ = false := frozen_of_row wr _ _ _ _ HHr.out
      have f2 : wr.frozen? ⟨w.heap.size, i * 3 + 2, none⟩ = false := frozen_of_row wr _ _ _ _ HHr.out
      have hzw : ¬ zb = w.heap.size := by omega
      clear hset hd
      obtain ⟨⟨lt, lk, le⟩, hli⟩ : ∃ l, at' ls i = l := ⟨_, rfl⟩
      rw [hli] at u0 u1 u2 HSet
      simp only at u0 u1 u2 HSet
      obtain ⟨⟨dt, dk, de⟩, hdi⟩ : ∃ l, at' (ls.take i ++ List.replicate (ls.length - i) nul) i = l := ⟨_, rfl⟩
      rw [hdi] at d0 d1 d2
      simp only at d0 d1 d2
      clear hli hdi
      have hi1 : (i : Int) < (n : Int) := by omega
      have hi0 : (0 : Int) ≤ (i : Int) := by omega
      go_wp2
      go_region_held3 (fun w' => w'.cell? ⟨zb, zo + i * 3, none⟩ = some (.string lt) ∧ w'.cell? ⟨zb, zo + i * 3 + 1, none⟩ = some (.int .u8 lk) ∧ w'.cell? ⟨zb, zo + i * 3 + 2, none⟩ = some (.int .u8 le)) (first | exact ⟨(cell3 hzw).trans u0, (cell3 hzw).trans u1, (cell3 hzw).trans u2⟩ | go_keep) (fail)
      go_wp2
      go_roundw
      case rel => exact ⟨i + 1, by omega, by go_num, HSet.out, (below3 HBr.out).drew⟩
      case measure => simp [intOf]; omega
    · obtain rfl : i = n := by omega
      have hh := HHr.out
      rw [hl, Nat.sub_self, List.replicate_zero, List.append_nil, ← hl, List.take_length] at hh
      have HH2 := hide hh
      clear hh
      go_wp2
      go_ret
      exact ⟨rfl, HH2.out, HBr.out⟩
end Go.Proofs.Qxb6603539a.Ds

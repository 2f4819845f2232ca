import Derived.Test.Qxb6603146aProg
import Derived.WalkKit
import Derived.WalkSpells
import Derived.Test.Qxb6603146aPlain
namespace Go.Proofs.Qxb6603146a.Ad
open Go.RowKit

theorem Try.info5 : (Try.prog.info? 5).map (fun i => (i.zero, i.size, i.bytes)) = some (some (.int .u8 0), 1, 1) := by kernel_rfl

theorem add_block (x : Addr) (k : Nat) : (x.add k).block = x.block := by unfold Addr.add; split <;> rfl

theorem fill_step {xs : List Int} {k n : Nat} (hx : xs.length = n) (hk : k < n) :
    (((xs.take k ++ List.replicate (n - k) 0).map (Value.int .u8)).set k (.int .u8 (xs.getD k 0))) = (xs.take (k + 1) ++ List.replicate (n - (k + 1)) 0).map (Value.int .u8) := by
  have e : n - k = (n - (k + 1)) + 1 := by omega
  rw [← List.map_set, e, List.replicate_succ, List.take_succ_eq_append_getElem (by omega)]
  have hl : (xs.take k).length = k := by simp; omega
  rw [List.set_append, if_neg (by omega), hl]
  have hg : xs.getD k 0 = xs[k]'(by omega) := by simp [List.getD, show k < xs.length by omega]
  rw [Nat.sub_self, List.set_cons_zero, List.append_assoc, hg]
  rfl

set_option maxHeartbeats 1000000 in
theorem clone_any (x : Addr) (n c : Nat) (xs : List Int) (w : World) (hx : xs.length = n) (hn : n ≤ 1048576) (hbB : 0 < n → x.block < w.heap.size) (hc : ∀ i, i < n → w.cell? (x.add i) = some (.int .u8 (xs.getD i 0))) :
    Calls Try.prog 9 #[.slice (some x) n c] w fun e w' => e = .returned (.slice (some ⟨w.heap.size, 0, none⟩) n n) ∧ w'.ownsRow w.heap.size 5 1 (.slice (some ⟨w.heap.size, 0, none⟩) n n) n (xs.map (Value.int .u8)) ∧ Below w.heap.size w w' := by
  have q22 : ∀ (w : World) (a : Option Addr) (n c n' c' : Nat), (binOp .eql 22 (.slice a n c) (.slice none n' c')).run Try.prog w = .ok (.bool a.isNone) w := fun w a n c n' c' => Lib.run_eql_slice_nil w _ _ a n c n' c' Try.underlying22
  obtain ⟨i0, hi, hz0, hz1, hz2⟩ := info_parts Try.info5
  go_enter Try.func9, Try.ntmps9
  go_wp2_with (at_make; refine wpList_make_full _ rfl _ _ 22 rfl w.heap.size 5 i0 (.int .u8 0) 1 Try.underlying22 hi hz0 hz1 _ _ _ _ n rfl rfl (by omega) (by omega) (by rw [hz2]; omega) (by unfold maxLen; omega) (Nat.le_refl _) ?_; intro w1 hown hgrow)
  rw [show (Value.int IntKind.u8 0).cells = #[.int .u8 0] from rfl, Nat.mul_one, toList_madeCells_one] at hown
  have hb1 : Below w.heap.size w w1 := (Below.refl _ _).grown hgrow (Nat.le_refl _) (fun k h => by cases h)
  clear hgrow hi hz0 hz1 hz2 q22
  go_loopw [4] (fun t wr => ∃ k : Nat, k ≤ n ∧ t = .int .i64 k ∧ wr.ownsRow w.heap.size 5 1 (.slice (some ⟨w.heap.size, 0, none⟩) n n) n ((xs.take k ++ List.replicate (n - k) 0).map (Value.int .u8)) ∧ Below w.heap.size w wr) (fun t _ => n - (intOf t).toNat)
  case atStart => exact ⟨0, Nat.zero_le _, rfl, by simpa using hown, hb1⟩
  case round =>
    obtain ⟨k, hk, rfl, hor, hbr⟩ := hrel
    by_cases hlt : k < n
    · have hcx : wr.cell? (x.add k) = some (.int .u8 (xs.getD k 0)) := (hbr.cell (by rw [add_block]; exact hbB (by omega))).trans (hc k hlt)
      obtain ⟨u, hu⟩ : ∃ u, wr.cell? ⟨w.heap.size, k, none⟩ = some u := by
        rw [hor.cellAt k (by omega)]
        exact ⟨_, List.getElem?_eq_getElem (by simp; omega)⟩
      have hfr := hor.frozenAt k
      have hst := hor.stored k (.int .u8 (xs.getD k 0))
      rw [fill_step hx hlt] at hst
      have HS := hst.1
      have HB : Below w.heap.size w (wr.setCell ⟨w.heap.size, k, none⟩ (.int .u8 (xs.getD k 0))) := hbr.setCell (Nat.le_refl _) _
      clear hst hor hbr hb1 hown
      obtain ⟨y, hxk⟩ : ∃ y, xs.getD k 0 = y := ⟨_, rfl⟩
      rw [hxk] at hcx HS HB
      clear hxk
      go_wp2
      go_roundw
      case rel => exact ⟨k + 1, by omega, by go_num, HS, HB⟩
      case measure => simp [intOf]; omega
    · have hkn : k = n := by omega
      subst hkn
      rw [Nat.sub_self, List.replicate_zero, List.append_nil, ← hx, List.take_length, hx] at hor
      clear hown hb1
      go_wp2
      go_ret
      exact ⟨rfl, hor, hbr⟩

theorem clone_nil (w : World) : Calls Try.prog 9 #[.slice none 0 0] w fun e w' => e = .returned (.slice none 0 0) ∧ w' = w := by
  have q22 : ∀ (w : World) (a : Option Addr) (n c n' c' : Nat), (binOp .eql 22 (.slice a n c) (.slice none n' c')).run Try.prog w = .ok (.bool a.isNone) w := fun w a n c n' c' => Lib.run_eql_slice_nil w _ _ a n c n' c' Try.underlying22
  go_enter Try.func9, Try.ntmps9
  go_wp2
  go_ret
  exact ⟨rfl, rfl⟩
end Go.Proofs.Qxb6603146a.Ad

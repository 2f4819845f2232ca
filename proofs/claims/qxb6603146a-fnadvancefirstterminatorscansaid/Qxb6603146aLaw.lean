import Derived.Test.Qxb6603146aProg
import Derived.WalkKit
import Derived.WalkSpells
import Derived.Deep.RegionWith
import Derived.Test.Qxb6603146aWalkF
import Derived.Test.Qxb6603146aWalkD
namespace Go.Proofs.Qxb6603146a.Ad
open Go.RowKit

theorem own_cells {w1 : World} {B n : Nat} {xs : List Int} (h : w1.ownsRow B 5 1 (.slice (some ⟨B, 0, none⟩) n n) n (xs.map (Value.int .u8))) (hx : xs.length = n) : ∀ i, i < n → w1.cell? ⟨B, i, none⟩ = some (.int .u8 (xs.getD i 0)) := fun i hi => by
  rw [h.cellAt i (by omega)]
  simp [List.getD, show i < xs.length by omega]

set_option maxRecDepth 100000 in
set_option maxHeartbeats 2000000 in
theorem law_past_nil (p l cr k : Int) (w : World) (hp : (0 : Int) ≤ p) :
    Calls Try.prog 5 #[.slice none 0 0, .int .i64 p, .int .i64 l, .int .i64 cr, .int .i64 k] w fun e w' => e = .returned (.bool true) ∧ Below w.heap.size w w' := by
  have H9 := hide clone_nil
  have H15 := hide (fun (w : World) => zz_past none 0 0 p l cr k w (by simpa using hp))
  go_enter Try.func5, Try.ntmps5
  go_wp2_with (first | (go_at_call 9; refine (H9.out _).mono ?_; rintro e w' ⟨rfl, hw⟩; have hw' := hw.symm; subst hw') | (go_at_call 15; refine (H15.out _).mono ?_; rintro e w1 ⟨rfl, hB⟩) | go_in)
  go_ret
  exact ⟨rfl, hB⟩

set_option maxRecDepth 100000 in
set_option maxHeartbeats 2000000 in
theorem law_past (x : Addr) (n c : Nat) (xs : List Int) (p l cr k : Int) (w : World) (hx : xs.length = n) (hn : n ≤ 1048576) (hbB : 0 < n → x.block < w.heap.size) (hc : ∀ i, i < n → w.cell? (x.add i) = some (.int .u8 (xs.getD i 0))) (hp0 : 0 ≤ p) (hp : (n : Int) ≤ p) :
    Calls Try.prog 5 #[.slice (some x) n c, .int .i64 p, .int .i64 l, .int .i64 cr, .int .i64 k] w fun e w' => e = .returned (.bool true) ∧ Below w.heap.size w w' := by
  have H9 := hide (clone_any x n c xs w hx hn hbB hc)
  have H15 := hide (fun (w1 : World) => zz_past (some ⟨w.heap.size, 0, none⟩) n n p l cr k w1 hp)
  clear hc hbB
  go_enter Try.func5, Try.ntmps5
  go_wp2_with (first | (go_at_call 9; refine H9.out.mono ?_; rintro e w1 ⟨rfl, hown, hB1⟩; clear hown) | (go_at_call 15; refine (H15.out _).mono ?_; rintro e w2 ⟨rfl, hB2⟩) | go_in)
  go_ret
  exact ⟨rfl, hB1.trans (hB2.mono hB1.size)⟩

set_option maxRecDepth 100000 in
set_option maxHeartbeats 2000000 in
theorem law_lf (b o n c p fl : Nat) (xs : List Int) (l cr k : Int) (w : World) (hx : xs.length = n) (hn : n ≤ 1048576) (hc : ∀ i, i < n → w.cell? ⟨b, o + i, none⟩ = some (.int .u8 (xs.getD i 0))) (hp : p < n) (hfl : Fst xs p 10 fl) (h1 : ¬ l < p) (h2 : ¬ l = fl) :
    Calls Try.prog 5 #[.slice (some ⟨b, o, none⟩) n c, .int .i64 p, .int .i64 l, .int .i64 cr, .int .i64 k] w fun e w' => e = .returned (.bool true) ∧ Below w.heap.size w w' := by
  have H14 := hide (first_any b o n c p fl xs 10 w hx hn hfl hc)
  have h2' : (l == (fl : Int)) = false := by simpa using h2
  clear hc hfl h2
  go_enter Try.func5, Try.ntmps5
  go_wp2_with (first | (go_at_call 14; refine H14.out.mono ?_; rintro e w' ⟨rfl, hw⟩; have hw' := hw.symm; subst hw') | go_in)
  go_ret
  exact ⟨rfl, Below.refl _ _⟩

set_option maxRecDepth 100000 in
set_option maxHeartbeats 2000000 in
theorem law_cr (b o n c p fl fc : Nat) (xs : List Int) (l cr k : Int) (w : World) (hx : xs.length = n) (hn : n ≤ 1048576) (hc : ∀ i, i < n → w.cell? ⟨b, o + i, none⟩ = some (.int .u8 (xs.getD i 0))) (hp : p < n) (hfl : Fst xs p 10 fl) (hfc : Fst xs p 13 fc) (hl : l < p ∨ l = fl) (h1 : ¬ cr < p) (h2 : ¬ cr = fc) :
    Calls Try.prog 5 #[.slice (some ⟨b, o, none⟩) n c, .int .i64 p, .int .i64 l, .int .i64 cr, .int .i64 k] w fun e w' => e = .returned (.bool true) ∧ Below w.heap.size w w' := by
  have H10 := hide (first_any b o n c p fl xs 10 w hx hn hfl hc)
  have H13 := hide (first_any b o n c p fc xs 13 w hx hn hfc hc)
  have h2' : (cr == (fc : Int)) = false := by simpa using h2
  have hlo := hfl.lo
  have hd : decide (cr < (p : Int)) = false := decide_eq_false h1
  have hd' : decide ((fl : Int) < (p : Int)) = false := decide_eq_false (by omega)
  clear hc hfl hfc h2
  rcases hl with hl | rfl
  all_goals
    go_enter Try.func5, Try.ntmps5
    go_wp2_with (first | (go_at_call_of 14 (Value.int IntKind.u8 10); refine H10.out.mono ?_; rintro e w' ⟨rfl, hw⟩; have hw' := hw.symm; subst hw') | (go_at_call_of 14 (Value.int IntKind.u8 13); refine H13.out.mono ?_; rintro e w' ⟨rfl, hw⟩; have hw' := hw.symm; subst hw') | go_in)
    go_ret
    exact ⟨rfl, Below.refl _ _⟩
end Go.Proofs.Qxb6603146a.Ad

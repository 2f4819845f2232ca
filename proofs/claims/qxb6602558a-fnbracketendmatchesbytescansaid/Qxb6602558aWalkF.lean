import Derived.Test.Qxb6602558aProg
import Derived.WalkKit
import Derived.WalkSpells
import Derived.Deep.QuietTactic
import Derived.BigQuiet
import Derived.Test.Qxb6602558aWalkE
import Derived.Test.Qxb6602558aWalkD
namespace Go.Proofs.Qxb6602558a.Br
open Go.RowKit

theorem end_zero (ao : Option Addr) (c m : Nat) (w : World) :
    Calls Try.prog 25 #[.pointer (some ⟨m, 0, none⟩), .slice ao 0 c] w fun e w' => e = .returned (.int .i64 (-1)) ∧ w' = w := by
  go_enter Try.func25, Try.ntmps25
  go_wp2
  refine wp_loop_rounds 1 ?_
  rw [rounds_succ]
  go_wp2
  go_ret
  exact ⟨rfl, rfl⟩

theorem scan_zero (ao : Option Addr) (c : Nat) (d : Int) (s e : Bool) (w : World) :
    Calls Try.prog 12 #[.int .i64 d, .bool s, .bool e, .slice ao 0 c] w fun e' w' => e' = .returned (.tuple #[.int .i64 (-1), .int .i64 d, .bool s, .bool e]) ∧ w' = w := by
  go_enter Try.func12, Try.ntmps12
  go_wp2
  refine wp_loop_rounds 1 ?_
  rw [rounds_succ]
  go_wp2
  refine bodyPost_ret (results_tmp4 rfl _ _ _) rfl ?_
  exact ⟨rfl, rfl⟩

theorem below_drewN {B : Nat} {a w : World} (h : Below B a w) (n : Nat) : Below B a (w.drewN n) := h.trans ⟨rfl, rfl, rfl, Nat.le_refl _, fun _ _ => rfl⟩

set_option maxHeartbeats 1000000 in
theorem zz_any (b n : Nat) (xs : List Int) (d0 : Int) (s0 e0 : Bool) (r1 r2 : Int) (r3 r4 : Bool) (w : World) (hx : xs.length = n) (hn : n ≤ 1048576) (hb : Byt xs) (hbm : b < w.heap.size) (hc : ∀ i, i < n → w.cell? ⟨b, i, none⟩ = some (.int .u8 (xs.getD i 0)))
    (hse : e0 = true → s0 = true) (HT : Hid (scan xs 0 d0 s0 e0 = (r1, r2, r3, r4))) :
    Calls Try.prog 11 #[.int .i64 d0, .bool s0, .bool e0, .slice (some ⟨b, 0, none⟩) n n] w fun e w' => e = .returned (.tuple #[.int .i64 r1, .int .i64 r2, .bool r3, .bool r4]) ∧ Below w.heap.size w w' := by
  have hM : Mat (w.alloc (.cells #[.int .i64 d0, .bool s0, .bool e0] 49)) w.heap.size d0 s0 e0 := heap_alloc_new _ _
  have hc' : ∀ i, i < n → (w.alloc (.cells #[.int .i64 d0, .bool s0, .bool e0] 49)).cell? ⟨b, i, none⟩ = some (.int .u8 (xs.getD i 0)) := fun i h => by
    rw [World.cell?_alloc_past _ _ _ (by exact hbm)]; exact hc i h
  have HK := hide (end_any w.heap.size b n xs d0 s0 e0 r1 r2 r3 r4 _ hx hn hb hbm hc' hM hse HT)
  clear hM hc' hc hb hse HT
  go_enter Try.func11, Try.ntmps11
  go_wp2_with (go_at_call 25; refine HK.out.mono ?_; rintro e w1 ⟨rfl, hM1, hB1⟩; have hc0 := hM1.c0; have hc1 := hM1.c1; have hc2 := hM1.c2; clear hM1)
  go_quiet (fail)
  go_wp2
  refine bodyPost_ret (results_tmp4 rfl _ _ _) rfl ?_
  exact ⟨rfl, below_drewN (((Below.refl _ _).alloc (Nat.le_refl _) _).trans hB1) _⟩

set_option maxHeartbeats 1000000 in
theorem zz_zero (ao : Option Addr) (c : Nat) (d0 : Int) (s0 e0 : Bool) (w : World) :
    Calls Try.prog 11 #[.int .i64 d0, .bool s0, .bool e0, .slice ao 0 c] w fun e w' => e = .returned (.tuple #[.int .i64 (-1), .int .i64 d0, .bool s0, .bool e0]) ∧ Below w.heap.size w w' := by
  have hM : Mat (w.alloc (.cells #[.int .i64 d0, .bool s0, .bool e0] 49)) w.heap.size d0 s0 e0 := heap_alloc_new _ _
  have hc0 := hM.c0
  have hc1 := hM.c1
  have hc2 := hM.c2
  clear hM
  have HK := hide (end_zero ao c w.heap.size (w.alloc (.cells #[.int .i64 d0, .bool s0, .bool e0] 49)))
  go_enter Try.func11, Try.ntmps11
  go_wp2_with (go_at_call 25; refine HK.out.mono ?_; rintro e w1 ⟨rfl, hw⟩; have hw' := hw.symm; subst hw')
  go_quiet (fail)
  go_wp2
  refine bodyPost_ret (results_tmp4 rfl _ _ _) rfl ?_
  exact ⟨rfl, below_drewN ((Below.refl _ _).alloc (Nat.le_refl _) _) _⟩
end Go.Proofs.Qxb6602558a.Br

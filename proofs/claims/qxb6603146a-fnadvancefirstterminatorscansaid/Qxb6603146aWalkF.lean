import Derived.Test.Qxb6603146aProg
import Derived.WalkKit
import Derived.WalkSpells
import Derived.Deep.QuietTactic
import Derived.BigQuiet
import Derived.Test.Qxb6603146aWalkC
namespace Go.Proofs.Qxb6603146a.Ad
open Go.RowKit

theorem Rdr.made (w : World) (v : Value) (p l c k : Int) : Rdr (w.alloc (.cells #[v, .int .i64 p, .int .i64 l, .int .i64 c, .int .i64 k] 39)) w.heap.size v p l c k := heap_alloc_new _ _

set_option maxHeartbeats 1000000 in
theorem zz_past (ao : Option Addr) (n c : Nat) (p l cr k : Int) (w : World) (hp : (n : Int) ≤ p) :
    Calls Try.prog 15 #[.slice ao n c, .int .i64 p, .int .i64 l, .int .i64 cr, .int .i64 k] w fun e w' => e = .returned (.tuple #[.int .i64 p, .int .i64 p, .int .i64 p, .bool false, .int .i64 p, .int .i64 l, .int .i64 cr, .int .i64 k]) ∧ Below w.heap.size w w' := by
  have hR := Rdr.made w (.slice ao n c) p l cr k
  have hc1 := hR.c1
  have hc2 := hR.c2
  have hc3 := hR.c3
  have hc4 := hR.c4
  have HK := hide (adv_past w.heap.size ao n c p l cr k _ hp hR)
  clear hR
  go_enter Try.func15, Try.ntmps15
  go_wp2_with (go_at_call 26; refine HK.out.mono ?_; rintro e w' ⟨rfl, hw⟩; have hw' := hw.symm; subst hw')
  go_quiet (fail)
  go_wp2
  refine bodyPost_ret (results_tmp8 rfl _ _ _) rfl ?_
  exact ⟨rfl, below_drewN ((Below.refl _ _).alloc (Nat.le_refl _) _) _⟩

set_option maxHeartbeats 1000000 in
theorem zz_any (b n p : Nat) (xs : List Int) (l cr k : Int) (fl fc : Nat) (w : World) (hx : xs.length = n) (hn : n ≤ 1048576) (hp : p < n) (hb : Byt xs) (hbm : b < w.heap.size) (hc : ∀ i, i < n → w.cell? ⟨b, i, none⟩ = some (.int .u8 (xs.getD i 0)))
    (hfl : Fst xs p 10 fl) (hfc : Fst xs p 13 fc) (hl : l < p ∨ l = fl) (hcr : cr < p ∨ cr = fc) (en st : Nat) (hen : min fl fc = en) (hst : stopOf xs en = st) :
    Calls Try.prog 15 #[.slice (some ⟨b, 0, none⟩) n n, .int .i64 p, .int .i64 l, .int .i64 cr, .int .i64 k] w fun e w' => e = .returned (.tuple #[.int .i64 p, .int .i64 en, .int .i64 st, .bool true, .int .i64 st, .int .i64 fl, .int .i64 fc, .int .i64 (wrap64 (k + 1))]) ∧ Below w.heap.size w w' := by
  have hR := Rdr.made w (.slice (some ⟨b, 0, none⟩) n n) p l cr k
  have hA := adv_any w.heap.size b n p xs l cr k fl fc _ hx hn hp hb hbm (fun i hi => by rw [World.cell?_alloc_past _ _ _ (by exact hbm)]; exact hc i hi) hR hfl hfc hl hcr
  rw [hen, hst] at hA
  have HK := hide hA
  clear hR hA hc hfl hfc hl hcr hen hst hb
  go_enter Try.func15, Try.ntmps15
  go_wp2_with (go_at_call 26; refine HK.out.mono ?_; rintro e w1 ⟨rfl, hM1, hB1⟩; have hc1 := hM1.c1; have hc2 := hM1.c2; have hc3 := hM1.c3; have hc4 := hM1.c4; clear hM1)
  go_quiet (fail)
  go_wp2
  refine bodyPost_ret (results_tmp8 rfl _ _ _) rfl ?_
  exact ⟨rfl, below_drewN (((Below.refl _ _).alloc (Nat.le_refl _) _).trans hB1) _⟩
end Go.Proofs.Qxb6603146a.Ad

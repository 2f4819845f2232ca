import Derived.Test.Qxb6603146aProg
import Derived.WalkKit
import Derived.WalkSpells
import Derived.Deep.RegionWith
import Derived.Test.Qxb6603146aLaw
namespace Go.Proofs.Qxb6603146a.Ad
open Go.RowKit

set_option maxRecDepth 100000 in
set_option maxHeartbeats 8000000 in
theorem law_in (b o n c p fl fc : Nat) (xs : List Int) (l cr k : Int) (w : World) (hx : xs.length = n) (hn : n ≤ 1048576) (hb : Byt xs) (hbB : b < w.heap.size) (hc : ∀ i, i < n → w.cell? ⟨b, o + i, none⟩ = some (.int .u8 (xs.getD i 0))) (hp : p < n) (hfl : Fst xs p 10 fl) (hfc : Fst xs p 13 fc) (hl : l < p ∨ l = fl) (hcr : cr < p ∨ cr = fc) :
    Calls Try.prog 5 #[.slice (some ⟨b, o, none⟩) n c, .int .i64 p, .int .i64 l, .int .i64 cr, .int .i64 k] w fun e w' => e = .returned (.bool true) ∧ Below w.heap.size w w' := by
  obtain ⟨en, hen⟩ : ∃ en, min fl fc = en := ⟨_, rfl⟩
  obtain ⟨st, hst⟩ : ∃ st, stopOf xs en = st := ⟨_, rfl⟩
  have H10 := hide (first_any b o n c p fl xs 10 w hx hn hfl hc)
  have H13 := hide (first_any b o n c p fc xs 13 w hx hn hfc hc)
  have H9 := hide (clone_any ⟨b, o, none⟩ n c xs w hx hn (fun _ => hbB) (fun i hi => by rw [Addr.add_lit]; exact hc i hi))
  have H15 := hide (fun (w1 : World) hbm hc1 => zz_any w.heap.size n p xs l cr k fl fc w1 hx hn hp hb hbm hc1 hfl hfc hl hcr en st hen hst)
  have G10 := hide (fun (w1 : World) hc1 => first_any w.heap.size 0 n n p fl xs 10 w1 hx hn hfl hc1)
  have G13 := hide (fun (w1 : World) hc1 => first_any w.heap.size 0 n n p fc xs 13 w1 hx hn hfc hc1)
  have hlo1 := hfl.lo
  have hhi1 : fl ≤ n := by rw [← hx]; exact hfl.hi
  have hlo2 := hfc.lo
  have hhi2 : fc ≤ n := by rw [← hx]; exact hfc.hi
  have hd1 : decide ((fl : Int) < (p : Int)) = false := decide_eq_false (by omega)
  have hd2 : decide ((fc : Int) < (p : Int)) = false := decide_eq_false (by omega)
  have hen2 : p ≤ en ∧ en ≤ n := by omega
  have HM : Hid (∀ i, p ≤ i → i < en → xs.getD i 0 ≠ 10 ∧ xs.getD i 0 ≠ 13) := fun i h1 h2 => ⟨hfl.miss i h1 (by omega), hfc.miss i h1 (by omega)⟩
  have HS : Hid ((en < n ∧ xs.getD en 0 = 10 ∧ st = en + 1) ∨ (en < n ∧ ¬ en + 1 < n ∧ xs.getD en 0 = 13 ∧ st = en + 1) ∨ (en + 1 < n ∧ xs.getD en 0 = 13 ∧ xs.getD (en + 1) 0 = 10 ∧ st = en + 2) ∨ (en + 1 < n ∧ xs.getD en 0 = 13 ∧ ¬ xs.getD (en + 1) 0 = 10 ∧ st = en + 1) ∨ (en = n ∧ st = n)) := by
    rw [Hid]
    by_cases h1 : en < n
    · have h2 : xs.getD en 0 = 10 ∨ xs.getD en 0 = 13 := by
        by_cases h : fl ≤ fc
        · have e : en = fl := by omega
          left; rw [e]; exact hfl.hit (by omega)
        · have e : en = fc := by omega
          right; rw [e]; exact hfc.hit (by omega)
      rcases h2 with h2 | h2
      · exact .inl ⟨h1, h2, by rw [← hst]; exact stopOf_one (by omega) (fun h => by omega)⟩
      · by_cases h3 : en + 1 < n
        · by_cases h4 : xs.getD (en + 1) 0 = 10
          · exact .inr (.inr (.inl ⟨h3, h2, h4, by rw [← hst]; exact stopOf_two (by omega) h2 (by omega) h4⟩))
          · exact .inr (.inr (.inr (.inl ⟨h3, h2, h4, by rw [← hst]; exact stopOf_one (by omega) (fun h => h4 h.2.2)⟩)))
        · exact .inr (.inl ⟨h1, h3, h2, by rw [← hst]; exact stopOf_one (by omega) (fun h => by omega)⟩)
    · exact .inr (.inr (.inr (.inr ⟨by omega, by rw [← hst, stopOf_end (by omega)]; omega⟩)))
  obtain ⟨hen3, hen4⟩ := hen2
  have HX := hide hx
  clear hc hb hfl hfc hen hst hx
  rcases hl with hl | rfl <;> rcases hcr with hcr | rfl
  all_goals
    go_enter Try.func5, Try.ntmps5
    go_wp2_with (first | (go_at_call 9; refine H9.out.mono ?_; rintro e w1 ⟨rfl, hown, hB1⟩; have HO := hide hown; clear hown; have hsz := hide (HO.out.lt w.heap.size rfl).2; have HC1 : Hid (∀ i, i < n → w1.cell? ⟨w.heap.size, i, none⟩ = some (.int .u8 (xs.getD i 0))) := own_cells HO.out HX.out) | (go_at_call 15; refine (H15.out _ (by exact hsz.out) (by exact HC1.out)).mono ?_; rintro e w2 ⟨rfl, hB2⟩; have HC2 : Hid (∀ i, i < n → w2.cell? ⟨w.heap.size, i, none⟩ = some (.int .u8 (xs.getD i 0))) := fun i h => by rw [hB2.cell (by exact hsz.out)]; exact HC1.out i h) | (go_at_call_of 14 (Value.int IntKind.u8 10); refine H10.out.mono ?_; rintro e w' ⟨rfl, hw⟩; have hw' := hw.symm; subst hw') | (go_at_call_of 14 (Value.int IntKind.u8 13); refine H13.out.mono ?_; rintro e w' ⟨rfl, hw⟩; have hw' := hw.symm; subst hw') | go_in)
    have HC3 : Hid (∀ i, i < n → w2.cell? ⟨w.heap.size, 0 + i, none⟩ = some (.int .u8 (xs.getD i 0))) := fun i h => by rw [Nat.zero_add]; exact HC2.out i h
    have HB : Hid (Below w.heap.size w w2) := hB1.trans (hB2.mono hB1.size)
    clear H9 H10 H13 H15 HC1 HO hsz hB1 hB2
    go_loop [19] (fun t => ∃ j : Nat, p ≤ j ∧ j ≤ en ∧ t = .int .i64 j) (fun t => n - (intOf t).toNat)
    case atStart => exact ⟨p, Nat.le_refl _, hen3, rfl⟩
    case round =>
      obtain ⟨j, hj0, hj1, rfl⟩ := hrel
      by_cases hj : j < en
      · obtain ⟨m10, m13⟩ := HM.out j hj0 hj
        have hcj := HC2.out j (by omega)
        obtain ⟨y, hy⟩ : ∃ y, xs.getD j 0 = y := ⟨_, rfl⟩
        rw [hy] at hcj m10 m13
        have t10 : (y != 10) = true := by simpa using m10
        have t13 : (y != 13) = true := by simpa using m13
        clear hy m10 m13
        go_wp2
        go_round
        case rel => exact ⟨j + 1, by omega, by omega, by go_num⟩
        case measure => simp [intOf]; omega
      · have hje : j = en := by omega
        subst hje
        rcases HS.out with ⟨h1, h2, hs⟩ | ⟨h1, h3, h2, hs⟩ | ⟨h1, h2, h3, hs⟩ | ⟨h1, h2, h3, hs⟩ | ⟨h1, hs⟩
        · have hcj := HC2.out j (by omega)
          rw [h2] at hcj
          have hs' : (st : Int) = (j : Int) + 1 := by omega
          clear h2 hs hj
          go_wp2_with (first | (go_at_call_of 14 (Value.int IntKind.u8 10); refine (G10.out _ (by exact HC3.out)).mono ?_; rintro e w' ⟨rfl, hw⟩; have hw' := hw.symm; subst hw') | (go_at_call_of 14 (Value.int IntKind.u8 13); refine (G13.out _ (by exact HC3.out)).mono ?_; rintro e w' ⟨rfl, hw⟩; have hw' := hw.symm; subst hw'))
          go_ret
          exact ⟨rfl, HB.out⟩
        · have hcj := HC2.out j (by omega)
          rw [h2] at hcj
          have hs' : (st : Int) = (j : Int) + 1 := by omega
          clear h2 hs hj
          go_wp2_with (first | (go_at_call_of 14 (Value.int IntKind.u8 10); refine (G10.out _ (by exact HC3.out)).mono ?_; rintro e w' ⟨rfl, hw⟩; have hw' := hw.symm; subst hw') | (go_at_call_of 14 (Value.int IntKind.u8 13); refine (G13.out _ (by exact HC3.out)).mono ?_; rintro e w' ⟨rfl, hw⟩; have hw' := hw.symm; subst hw'))
          go_ret
          exact ⟨rfl, HB.out⟩
        · have hcj := HC2.out j (by omega)
          rw [h2] at hcj
          have hcj2 := HC2.out (j + 1) (by omega)
          rw [h3] at hcj2
          have hs' : (st : Int) = (j : Int) + 2 := by omega
          clear h2 h3 hs hj
          go_wp2_with (first | (go_at_call_of 14 (Value.int IntKind.u8 10); refine (G10.out _ (by exact HC3.out)).mono ?_; rintro e w' ⟨rfl, hw⟩; have hw' := hw.symm; subst hw') | (go_at_call_of 14 (Value.int IntKind.u8 13); refine (G13.out _ (by exact HC3.out)).mono ?_; rintro e w' ⟨rfl, hw⟩; have hw' := hw.symm; subst hw'))
          go_ret
          exact ⟨rfl, HB.out⟩
        · have hcj := HC2.out j (by omega)
          rw [h2] at hcj
          have hcj2 := HC2.out (j + 1) (by omega)
          obtain ⟨y, hy⟩ : ∃ y, xs.getD (j + 1) 0 = y := ⟨_, rfl⟩
          rw [hy] at hcj2 h3
          have t10 : (y == 10) = false := by simpa using h3
          have hs' : (st : Int) = (j : Int) + 1 := by omega
          clear h2 h3 hs hj hy
          go_wp2_with (first | (go_at_call_of 14 (Value.int IntKind.u8 10); refine (G10.out _ (by exact HC3.out)).mono ?_; rintro e w' ⟨rfl, hw⟩; have hw' := hw.symm; subst hw') | (go_at_call_of 14 (Value.int IntKind.u8 13); refine (G13.out _ (by exact HC3.out)).mono ?_; rintro e w' ⟨rfl, hw⟩; have hw' := hw.symm; subst hw'))
          go_ret
          exact ⟨rfl, HB.out⟩
        · have hs' : (st : Int) = (j : Int) := by omega
          clear hs hj
          go_wp2_with (first | (go_at_call_of 14 (Value.int IntKind.u8 10); refine (G10.out _ (by exact HC3.out)).mono ?_; rintro e w' ⟨rfl, hw⟩; have hw' := hw.symm; subst hw') | (go_at_call_of 14 (Value.int IntKind.u8 13); refine (G13.out _ (by exact HC3.out)).mono ?_; rintro e w' ⟨rfl, hw⟩; have hw' := hw.symm; subst hw'))
          go_ret
          exact ⟨rfl, HB.out⟩
end Go.Proofs.Qxb6603146a.Ad

import Derived.Test.Qxb6604140aLaw
namespace Go.Proofs.Qxb6604140a.Cs
open Go.RowKit

set_option maxRecDepth 100000 in
set_option maxHeartbeats 2000000 in
theorem law_part (x : Addr) (n p c : Nat) (xs : List Int) (w : World) (hx : xs.length = n) (hn : n ≤ 1048576) (hb : Byt xs) (hp : p < n) (hf : Fst xs p 10 n) (hbB : x.block < w.heap.size) (hc : ∀ i, i < n → w.cell? (x.add i) = some (.int .u8 (xs.getD i 0))) :
    Calls Try.prog 5 #[.slice (some x) n c, .int .i64 p, .bool false] w fun e w' => e = .returned (.bool true) ∧ Below w.heap.size w w' := by
  have H15 := hide (clone_any x n c xs w hx hn (fun _ => hbB) hc)
  have H14 := hide (zzBytes_in (some x) n c p false w hn)
  have q27 := q27
  obtain ⟨g, hg⟩ : ∃ g, w.heap.size = g := ⟨_, rfl⟩
  have HX := hide hx
  have HBy := hide hb
  have HF := hide hf
  rw [hg] at H15
  have HG := hide hg
  clear hc hg hx hb hf
  go_enter Try.func5, Try.ntmps5
  go_wp2_with (first | (go_at_call 14; refine H14.out.mono ?_; rintro e w' ⟨rfl, hw⟩; have hw' := hw.symm; subst hw') | (go_at_call 15; refine H15.out.mono ?_))
  clear H14 H15
  rintro e w1 ⟨rfl, hr1, hB1⟩
  have HC1 := hide (row_cells hr1)
  rw [HX.out] at HC1
  have HB := hide hB1
  have HZ1 := hide (zz_pass _ _ _ _ _ _ _ w1 (csv_part g n p xs w1 HX.out HBy.out hp HF.out HC1.out))
  have H17 := hide (hasLF_none (some ⟨g, p, none⟩) g p (n - p) (n - p) w1 (fun i => xs.getD (p + i) 0) (by omega) (fun _ => rfl) (fun i hi => HC1.out (p + i) (by omega)) (fun i hi => HF.out.miss (p + i) (by omega) (by omega)))
  clear hr1 hB1 HC1
  go_wp2_with (first | (go_at_call 16; refine HZ1.out.mono ?_; rintro e w' ⟨rfl, hw⟩; have hw' := hw.symm; subst hw') | (go_at_call 17; refine H17.out.mono ?_; rintro e w' ⟨rfl, hw⟩; have hw' := hw.symm; subst hw'))
  go_ret
  exact ⟨rfl, by rw [HG.out]; exact HB.out⟩

set_option maxRecDepth 100000 in
set_option maxHeartbeats 2000000 in
theorem law_wait (x : Addr) (n c : Nat) (xs : List Int) (w : World) (hx : xs.length = n) (hn : n ≤ 1048576) (hbB : 0 < n → x.block < w.heap.size) (hc : ∀ i, i < n → w.cell? (x.add i) = some (.int .u8 (xs.getD i 0))) :
    Calls Try.prog 5 #[.slice (some x) n c, .int .i64 n, .bool false] w fun e w' => e = .returned (.bool true) ∧ Below w.heap.size w w' := by
  have H15 := hide (clone_any x n c xs w hx hn hbB hc)
  have H14 := hide (zzBytes_in (some x) n c n false w hn)
  have q27 := q27
  obtain ⟨g, hg⟩ : ∃ g, w.heap.size = g := ⟨_, rfl⟩
  rw [hg] at H15
  have HG := hide hg
  clear hc hg hx hbB
  go_enter Try.func5, Try.ntmps5
  go_wp2_with (first | (go_at_call 14; refine H14.out.mono ?_; rintro e w' ⟨rfl, hw⟩; have hw' := hw.symm; subst hw') | (go_at_call 15; refine H15.out.mono ?_))
  clear H14 H15
  rintro e w1 ⟨rfl, hr1, hB1⟩
  have HB := hide hB1
  have HZ1 := hide (zz_pass _ _ _ _ _ _ _ w1 (csv_wait (some ⟨g, 0, none⟩) g n w1 hn (.inl rfl)))
  have H17 := hide (fun ao => hasLF_none ao g 0 0 0 w1 (fun _ => 0) (by omega) (fun h => absurd h (Nat.lt_irrefl _)) (fun i hi => absurd hi (Nat.not_lt_zero _)) (fun i hi => absurd hi (Nat.not_lt_zero _)))
  clear hr1 hB1
  go_wp2_with (first | (go_at_call 16; refine HZ1.out.mono ?_; rintro e w' ⟨rfl, hw⟩; have hw' := hw.symm; subst hw') | (go_at_call 17; refine (H17.out _).mono ?_; rintro e w' ⟨rfl, hw⟩; have hw' := hw.symm; subst hw'))
  go_ret
  exact ⟨rfl, by rw [HG.out]; exact HB.out⟩

set_option maxRecDepth 100000 in
set_option maxHeartbeats 2000000 in
theorem law_last (x : Addr) (n c : Nat) (xs : List Int) (w : World) (hx : xs.length = n) (hn : n ≤ 1048576) (hbB : 0 < n → x.block < w.heap.size) (hc : ∀ i, i < n → w.cell? (x.add i) = some (.int .u8 (xs.getD i 0))) :
    Calls Try.prog 5 #[.slice (some x) n c, .int .i64 n, .bool true] w fun e w' => e = .returned (.bool true) ∧ Below w.heap.size w w' := by
  have H15 := hide (clone_any x n c xs w hx hn hbB hc)
  have H14 := hide (zzBytes_in (some x) n c n true w hn)
  have q27 := q27
  obtain ⟨g, hg⟩ : ∃ g, w.heap.size = g := ⟨_, rfl⟩
  rw [hg] at H15
  have HG := hide hg
  clear hc hg hx hbB
  go_enter Try.func5, Try.ntmps5
  go_wp2_with (first | (go_at_call 14; refine H14.out.mono ?_; rintro e w' ⟨rfl, hw⟩; have hw' := hw.symm; subst hw') | (go_at_call 15; refine H15.out.mono ?_))
  clear H14 H15
  rintro e w1 ⟨rfl, hr1, hB1⟩
  have HB := hide hB1
  have HZ1 := hide (zz_pass _ _ _ _ _ _ _ w1 (csv_last (some ⟨g, 0, none⟩) g n w1 hn (.inl rfl)))
  have H18 := hide (fun (a1 a2 : Option Addr) c1 c2 => same_any a1 a2 g 0 0 c1 c2 w1 (fun _ => 0) (by omega) (fun h => absurd h (Nat.lt_irrefl _)) (fun h => absurd h (Nat.lt_irrefl _)) (fun i hi => absurd hi (Nat.not_lt_zero _)))
  have H17 := hide (fun ao (w2 : World) => hasLF_none ao g 0 0 0 w2 (fun _ => 0) (by omega) (fun h => absurd h (Nat.lt_irrefl _)) (fun i hi => absurd hi (Nat.not_lt_zero _)) (fun i hi => absurd hi (Nat.not_lt_zero _)))
  clear hr1 hB1
  go_wp2_with (first | (go_at_call 16; refine HZ1.out.mono ?_; rintro e w' ⟨rfl, hw⟩; have hw' := hw.symm; subst hw') | (go_at_call 18; refine (H18.out _ _ _ _).mono ?_))
  clear HZ1 H18
  rintro e w2 ⟨rfl, m, hw2⟩
  have HBm : Hid (Below g w w2) := by rw [hw2]; exact below_drewN HB.out m
  clear hw2 HB
  go_wp2_with (go_at_call 17; refine (H17.out _ _).mono ?_; rintro e w' ⟨rfl, hw⟩; have hw' := hw.symm; subst hw')
  go_ret
  exact ⟨rfl, by rw [HG.out]; exact HBm.out⟩

set_option maxRecDepth 100000 in
set_option maxHeartbeats 2000000 in
theorem law_nil (en : Bool) (w : World) :
    Calls Try.prog 5 #[.slice none 0 0, .int .i64 0, .bool en] w fun e w' => e = .returned (.bool true) ∧ Below w.heap.size w w' := by
  have H15 := hide (clone_nil 0 0 w)
  have H14 := hide (zzBytes_in none 0 0 0 en w (by omega))
  have q27 := q27
  have HB := hide (Below.refl w.heap.size w)
  obtain ⟨g, hg⟩ : ∃ g, w.heap.size = g := ⟨_, rfl⟩
  rw [hg] at HB
  have HG := hide hg
  clear hg
  rcases en with _ | _
  · have HZ1 := hide (zz_pass _ _ _ _ _ _ _ w (csv_wait none 0 0 w (by omega) (.inr ⟨rfl, rfl⟩)))
    have H17 := hide (fun ao => hasLF_none ao g 0 0 0 w (fun _ => 0) (by omega) (fun h => absurd h (Nat.lt_irrefl _)) (fun i hi => absurd hi (Nat.not_lt_zero _)) (fun i hi => absurd hi (Nat.not_lt_zero _)))
    go_enter Try.func5, Try.ntmps5
    go_wp2_with (first | (go_at_call 14; refine H14.out.mono ?_; rintro e w' ⟨rfl, hw⟩; have hw' := hw.symm; subst hw') | (go_at_call 15; refine H15.out.mono ?_; rintro e w' ⟨rfl, hw⟩; have hw' := hw.symm; subst hw') | (go_at_call 16; refine HZ1.out.mono ?_; rintro e w' ⟨rfl, hw⟩; have hw' := hw.symm; subst hw') | (go_at_call 17; refine (H17.out _).mono ?_; rintro e w' ⟨rfl, hw⟩; have hw' := hw.symm; subst hw'))
    go_ret
    exact ⟨rfl, by rw [HG.out]; exact HB.out⟩
  · have HZ1 := hide (zz_pass _ _ _ _ _ _ _ w (csv_last none 0 0 w (by omega) (.inr ⟨rfl, rfl⟩)))
    have H18 := hide (fun (a1 a2 : Option Addr) c1 c2 => same_any a1 a2 g 0 0 c1 c2 w (fun _ => 0) (by omega) (fun h => absurd h (Nat.lt_irrefl _)) (fun h => absurd h (Nat.lt_irrefl _)) (fun i hi => absurd hi (Nat.not_lt_zero _)))
    have H17 := hide (fun ao (w2 : World) => hasLF_none ao g 0 0 0 w2 (fun _ => 0) (by omega) (fun h => absurd h (Nat.lt_irrefl _)) (fun i hi => absurd hi (Nat.not_lt_zero _)) (fun i hi => absurd hi (Nat.not_lt_zero _)))
    go_enter Try.func5, Try.ntmps5
    go_wp2_with (first | (go_at_call 14; refine H14.out.mono ?_; rintro e w' ⟨rfl, hw⟩; have hw' := hw.symm; subst hw') | (go_at_call 15; refine H15.out.mono ?_; rintro e w' ⟨rfl, hw⟩; have hw' := hw.symm; subst hw') | (go_at_call 16; refine HZ1.out.mono ?_; rintro e w' ⟨rfl, hw⟩; have hw' := hw.symm; subst hw') | (go_at_call 18; refine (H18.out _ _ _ _).mono ?_))
    clear HZ1 H18 H14 H15
    rintro e w2 ⟨rfl, m, hw2⟩
    have HBm : Hid (Below g w w2) := by rw [hw2]; exact below_drewN HB.out m
    clear hw2 HB
    go_wp2_with (go_at_call 17; refine (H17.out _ _).mono ?_; rintro e w' ⟨rfl, hw⟩; have hw' := hw.symm; subst hw')
    go_ret
    exact ⟨rfl, by rw [HG.out]; exact HBm.out⟩

theorem zzBytes_big (ao : Option Addr) (n c : Nat) (p : Int) (en : Bool) (w : World) (hn : 1048576 < n) : Calls Try.prog 14 #[.slice ao n c, .int .i64 p, .bool en] w fun x w' => x = .returned (.bool false) ∧ w' = w := by
  go_enter Try.func14, Try.ntmps14
  go_wp2
  go_ret
  exact ⟨rfl, rfl⟩

set_option maxRecDepth 100000 in
set_option maxHeartbeats 2000000 in
theorem law_big (ao : Option Addr) (n c : Nat) (p : Int) (en : Bool) (w : World) (hn : 1048576 < n) : Calls Try.prog 5 #[.slice ao n c, .int .i64 p, .bool en] w fun e w' => e = .returned (.bool true) ∧ Below w.heap.size w w' := by
  have H14 := hide (zzBytes_big ao n c p en w hn)
  go_enter Try.func5, Try.ntmps5
  go_wp2_with (go_at_call 14; refine H14.out.mono ?_; rintro e w' ⟨rfl, hw⟩; have hw' := hw.symm; subst hw')
  go_ret
  exact ⟨rfl, Below.refl _ _⟩

set_option maxRecDepth 100000 in
set_option maxHeartbeats 2000000 in
theorem law_out (ao : Option Addr) (n c : Nat) (p : Int) (en : Bool) (w : World) (hn : n ≤ 1048576) (hp : p < 0 ∨ (n : Int) < p) : Calls Try.prog 5 #[.slice ao n c, .int .i64 p, .bool en] w fun e w' => e = .returned (.bool true) ∧ Below w.heap.size w w' := by
  have H14 := hide (zzBytes_in ao n c p en w hn)
  rcases hp with hp | hp
  · go_enter Try.func5, Try.ntmps5
    go_wp2_with (go_at_call 14; refine H14.out.mono ?_; rintro e w' ⟨rfl, hw⟩; have hw' := hw.symm; subst hw')
    go_ret
    exact ⟨rfl, Below.refl _ _⟩
  · have hp0 : ¬ p < 0 := by omega
    go_enter Try.func5, Try.ntmps5
    go_wp2_with (go_at_call 14; refine H14.out.mono ?_; rintro e w' ⟨rfl, hw⟩; have hw' := hw.symm; subst hw')
    go_ret
    exact ⟨rfl, Below.refl _ _⟩
end Go.Proofs.Qxb6604140a.Cs

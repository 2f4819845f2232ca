import Derived.Test.Qxb6604140aWalkN
namespace Go.Proofs.Qxb6604140a.Cs
open Go.RowKit

theorem below_drewN {B : Nat} {w w' : World} (h : Below B w w') (m : Nat) : Below B w (w'.drewN m) := ⟨h.os, h.tape, h.output, h.size, h.block⟩

theorem row_cells {w : World} {g : Nat} {xs : List Int} (h : w.heap[g]? = some (.cells (xs.map (Value.int .u8)).toArray 5 (0, 0))) : ∀ i, i < xs.length → w.cell? ⟨g, i, none⟩ = some (.int .u8 (xs.getD i 0)) := fun i hi => by
  simp [World.cell?, h, List.getD, hi]

set_option maxRecDepth 100000 in
set_option maxHeartbeats 2000000 in
theorem law_s0 (x : Addr) (p k c : Nat) (xs : List Int) (w : World) (hx : xs.length = k + 1 + p) (hn : k + 1 + p ≤ 1048576) (hbB : x.block < w.heap.size) (hc : ∀ i, i < k + 1 + p → w.cell? (x.add i) = some (.int .u8 (xs.getD i 0)))
    (hno : ∀ i, i < k + 1 → xs.getD (p + i) 0 ≠ 10) (hcr : xs.getD (p + k) 0 ≠ 13)
    (hz : ∀ w1 : World, (∀ i, i < k + 1 + p → w1.cell? ⟨w.heap.size, i, none⟩ = some (.int .u8 (xs.getD i 0))) → Calls Try.prog 16 #[.slice (some ⟨w.heap.size, 0, none⟩) (k + 1 + p) (k + 1 + p), .int .i64 p, .bool true] w1 fun e w' => e = .returned (.tuple #[.slice (some ⟨w.heap.size, p, none⟩) (k + 1) (k + 1), .int .i64 ((p + (k + 1) : Nat) : Int), .bool false, .bool true]) ∧ w' = w1) :
    Calls Try.prog 5 #[.slice (some x) (k + 1 + p) c, .int .i64 p, .bool true] w fun e w' => e = .returned (.bool true) ∧ Below w.heap.size w w' := by
  have H15 := hide (clone_any x (k + 1 + p) c xs w hx hn (fun _ => hbB) hc)
  have H14 := hide (zzBytes_in (some x) (k + 1 + p) c p true w hn)
  have HZ := hide hz
  obtain ⟨g, hg⟩ : ∃ g, w.heap.size = g := ⟨_, rfl⟩
  have HX := hide hx
  have HNO := hide hno
  have HCR := hide hcr
  rw [hg] at H15 HZ
  have HG := hide hg
  clear hc hz hg hx hno hcr
  go_enter Try.func5, Try.ntmps5
  go_wp2_with (first | (go_at_call 14; refine H14.out.mono ?_; rintro e w' ⟨rfl, hw⟩; have hw' := hw.symm; subst hw') | (go_at_call 15; refine H15.out.mono ?_))
  clear H14 H15
  rintro e w1 ⟨rfl, hr1, hB1⟩
  have HC1 := hide (row_cells hr1)
  rw [HX.out] at HC1
  have HB := hide hB1
  have HCE : Hid _ := HC1.out (p + k) (by omega)
  obtain ⟨y, hy⟩ : ∃ y, xs.getD (p + k) 0 = y := ⟨_, rfl⟩
  have HY := hide hy
  clear hy
  have t0 : (y == 13) = false := by have := HCR.out; rw [HY.out] at this; simpa using this
  have H18 := hide (fun (a1 a2 : Option Addr) c1 c2 h1 h2 => same_any a1 a2 g p (k + 1) c1 c2 w1 (fun i => xs.getD (p + i) 0) (by omega) h1 h2 (fun i hi => HC1.out (p + i) (by omega)))
  have H17 := hide (fun m c2 => hasLF_none (some ⟨g, p, none⟩) g p (k + 1) c2 (w1.drewN m) (fun i => xs.getD (p + i) 0) (by omega) (fun _ => rfl) (fun i hi => HC1.out (p + i) (by omega)) HNO.out)
  have HZ1 := hide (HZ.out _ HC1.out)
  clear hr1 hB1 HZ HC1
  go_wp2_with (first | (go_at_call 16; refine HZ1.out.mono ?_; rintro e w' ⟨rfl, hw⟩; have hw' := hw.symm; subst hw') | (go_at_call 18; refine (H18.out _ _ _ _ (fun _ => rfl) (fun _ => rfl)).mono ?_))
  clear HZ1 H18
  rintro e w2 ⟨rfl, m, hw2⟩
  have HBm : Hid (Below g w w2) := by rw [hw2]; exact below_drewN HB.out m
  have hE : w2.cell? ⟨g, p + k, none⟩ = some (.int .u8 y) := by rw [hw2, ← HY.out]; exact HCE.out
  have H172 := hide (H17.out m)
  rw [← hw2] at H172
  clear hw2 HB HCE
  go_wp2_with (go_at_call 17; refine (H172.out _).mono ?_; rintro e w' ⟨rfl, hw⟩; have hw' := hw.symm; subst hw')
  go_ret
  exact ⟨rfl, by rw [HG.out]; exact HBm.out⟩

set_option maxRecDepth 100000 in
set_option maxHeartbeats 2000000 in
theorem law_s1 (x : Addr) (p k c : Nat) (xs : List Int) (w : World) (hx : xs.length = k + 1 + 1 + p) (hn : k + 1 + 1 + p ≤ 1048576) (hbB : x.block < w.heap.size) (hc : ∀ i, i < k + 1 + 1 + p → w.cell? (x.add i) = some (.int .u8 (xs.getD i 0)))
    (h1 : xs.getD (p + (k + 1)) 0 = 13) (hno : ∀ i, i < k + 1 → xs.getD (p + i) 0 ≠ 10)
    (hz : ∀ w1 : World, (∀ i, i < k + 1 + 1 + p → w1.cell? ⟨w.heap.size, i, none⟩ = some (.int .u8 (xs.getD i 0))) → Calls Try.prog 16 #[.slice (some ⟨w.heap.size, 0, none⟩) (k + 1 + 1 + p) (k + 1 + 1 + p), .int .i64 p, .bool true] w1 fun e w' => e = .returned (.tuple #[.slice (some ⟨w.heap.size, p, none⟩) (k + 1) (k + 1 + 1), .int .i64 ((p + (k + 1) + 1 : Nat) : Int), .bool false, .bool true]) ∧ w' = w1) :
    Calls Try.prog 5 #[.slice (some x) (k + 1 + 1 + p) c, .int .i64 p, .bool true] w fun e w' => e = .returned (.bool true) ∧ Below w.heap.size w w' := by
  have H15 := hide (clone_any x (k + 1 + 1 + p) c xs w hx hn (fun _ => hbB) hc)
  have H14 := hide (zzBytes_in (some x) (k + 1 + 1 + p) c p true w hn)
  have HZ := hide hz
  obtain ⟨g, hg⟩ : ∃ g, w.heap.size = g := ⟨_, rfl⟩
  have HX := hide hx
  have HNO := hide hno
  have H1 := hide h1
  rw [hg] at H15 HZ
  have HG := hide hg
  clear hc hz hg hx hno h1
  go_enter Try.func5, Try.ntmps5
  go_wp2_with (first | (go_at_call 14; refine H14.out.mono ?_; rintro e w' ⟨rfl, hw⟩; have hw' := hw.symm; subst hw') | (go_at_call 15; refine H15.out.mono ?_))
  clear H14 H15
  rintro e w1 ⟨rfl, hr1, hB1⟩
  have HC1 := hide (row_cells hr1)
  rw [HX.out] at HC1
  have HB := hide hB1
  have HCT0 : Hid _ := HC1.out (p + (k + 1)) (by omega)
  have HCE : Hid _ := HC1.out (p + k) (by omega)
  obtain ⟨y, hy⟩ : ∃ y, xs.getD (p + k) 0 = y := ⟨_, rfl⟩
  have HY := hide hy
  clear hy
  have H18 := hide (fun (a1 a2 : Option Addr) c1 c2 h1 h2 => same_any a1 a2 g p (k + 1) c1 c2 w1 (fun i => xs.getD (p + i) 0) (by omega) h1 h2 (fun i hi => HC1.out (p + i) (by omega)))
  have H17 := hide (fun m c2 => hasLF_none (some ⟨g, p, none⟩) g p (k + 1) c2 (w1.drewN m) (fun i => xs.getD (p + i) 0) (by omega) (fun _ => rfl) (fun i hi => HC1.out (p + i) (by omega)) HNO.out)
  have HZ1 := hide (HZ.out _ HC1.out)
  clear hr1 hB1 HZ HC1
  go_wp2_with (first | (go_at_call 16; refine HZ1.out.mono ?_; rintro e w' ⟨rfl, hw⟩; have hw' := hw.symm; subst hw') | (go_at_call 18; refine (H18.out _ _ _ _ (fun _ => rfl) (fun _ => rfl)).mono ?_))
  clear HZ1 H18
  rintro e w2 ⟨rfl, m, hw2⟩
  have HBm : Hid (Below g w w2) := by rw [hw2]; exact below_drewN HB.out m
  have hT0 : w2.cell? ⟨g, p + (k + 1), none⟩ = some (.int .u8 13) := by rw [hw2, ← H1.out]; exact HCT0.out
  have hE : w2.cell? ⟨g, p + k, none⟩ = some (.int .u8 y) := by rw [hw2, ← HY.out]; exact HCE.out
  have H172 := hide (H17.out m)
  rw [← hw2] at H172
  clear hw2 HB HCT0 HCE
  have hq1 : ((p : Int) + ((k : Int) + 1) + 1 == (k : Int) + 1 + 1 + p) = true := by simp only [beq_iff_eq]; omega
  go_wp2_with (go_at_call 17; refine (H172.out _).mono ?_; rintro e w' ⟨rfl, hw⟩; have hw' := hw.symm; subst hw')
  go_ret
  exact ⟨rfl, by rw [HG.out]; exact HBm.out⟩

set_option maxRecDepth 100000 in
set_option maxHeartbeats 2000000 in
theorem law_s2 (x : Addr) (p k r c : Nat) (en : Bool) (xs : List Int) (w : World) (hx : xs.length = p + (k + 1) + 1 + r) (hn : p + (k + 1) + 1 + r ≤ 1048576) (hbB : x.block < w.heap.size) (hc : ∀ i, i < p + (k + 1) + 1 + r → w.cell? (x.add i) = some (.int .u8 (xs.getD i 0)))
    (h1 : xs.getD (p + (k + 1)) 0 = 10) (hno : ∀ i, i < k + 1 → xs.getD (p + i) 0 ≠ 10) (hcr : xs.getD (p + k) 0 ≠ 13)
    (hz : ∀ w1 : World, (∀ i, i < p + (k + 1) + 1 + r → w1.cell? ⟨w.heap.size, i, none⟩ = some (.int .u8 (xs.getD i 0))) → Calls Try.prog 16 #[.slice (some ⟨w.heap.size, 0, none⟩) (p + (k + 1) + 1 + r) (p + (k + 1) + 1 + r), .int .i64 p, .bool en] w1 fun e w' => e = .returned (.tuple #[.slice (some ⟨w.heap.size, p, none⟩) (k + 1) (k + 1 + 1 + r), .int .i64 ((p + (k + 1) + 1 : Nat) : Int), .bool true, .bool true]) ∧ w' = w1) :
    Calls Try.prog 5 #[.slice (some x) (p + (k + 1) + 1 + r) c, .int .i64 p, .bool en] w fun e w' => e = .returned (.bool true) ∧ Below w.heap.size w w' := by
  have H15 := hide (clone_any x (p + (k + 1) + 1 + r) c xs w hx hn (fun _ => hbB) hc)
  have H14 := hide (zzBytes_in (some x) (p + (k + 1) + 1 + r) c p en w hn)
  have HZ := hide hz
  obtain ⟨g, hg⟩ : ∃ g, w.heap.size = g := ⟨_, rfl⟩
  have HX := hide hx
  have HNO := hide hno
  have H1 := hide h1
  have HCR := hide hcr
  rw [hg] at H15 HZ
  have HG := hide hg
  clear hc hz hg hx hno h1 hcr
  go_enter Try.func5, Try.ntmps5
  go_wp2_with (first | (go_at_call 14; refine H14.out.mono ?_; rintro e w' ⟨rfl, hw⟩; have hw' := hw.symm; subst hw') | (go_at_call 15; refine H15.out.mono ?_))
  clear H14 H15
  rintro e w1 ⟨rfl, hr1, hB1⟩
  have HC1 := hide (row_cells hr1)
  rw [HX.out] at HC1
  have HB := hide hB1
  have HCT0 : Hid _ := HC1.out (p + (k + 1)) (by omega)
  have HCE : Hid _ := HC1.out (p + k) (by omega)
  obtain ⟨y, hy⟩ : ∃ y, xs.getD (p + k) 0 = y := ⟨_, rfl⟩
  have HY := hide hy
  clear hy
  have t0 : (y == 13) = false := by have := HCR.out; rw [HY.out] at this; simpa using this
  have H18 := hide (fun (a1 a2 : Option Addr) c1 c2 h1 h2 => same_any a1 a2 g p (k + 1) c1 c2 w1 (fun i => xs.getD (p + i) 0) (by omega) h1 h2 (fun i hi => HC1.out (p + i) (by omega)))
  have H17 := hide (fun m c2 => hasLF_none (some ⟨g, p, none⟩) g p (k + 1) c2 (w1.drewN m) (fun i => xs.getD (p + i) 0) (by omega) (fun _ => rfl) (fun i hi => HC1.out (p + i) (by omega)) HNO.out)
  have HZ1 := hide (HZ.out _ HC1.out)
  clear hr1 hB1 HZ HC1
  go_wp2_with (first | (go_at_call 16; refine HZ1.out.mono ?_; rintro e w' ⟨rfl, hw⟩; have hw' := hw.symm; subst hw') | (go_at_call 18; refine (H18.out _ _ _ _ (fun _ => rfl) (fun _ => rfl)).mono ?_))
  clear HZ1 H18
  rintro e w2 ⟨rfl, m, hw2⟩
  have HBm : Hid (Below g w w2) := by rw [hw2]; exact below_drewN HB.out m
  have hT0 : w2.cell? ⟨g, p + (k + 1), none⟩ = some (.int .u8 10) := by rw [hw2, ← H1.out]; exact HCT0.out
  have hE : w2.cell? ⟨g, p + k, none⟩ = some (.int .u8 y) := by rw [hw2, ← HY.out]; exact HCE.out
  have H172 := hide (H17.out m)
  rw [← hw2] at H172
  clear hw2 HB HCT0 HCE
  go_wp2_with (go_at_call 17; refine (H172.out _).mono ?_; rintro e w' ⟨rfl, hw⟩; have hw' := hw.symm; subst hw')
  go_ret
  exact ⟨rfl, by rw [HG.out]; exact HBm.out⟩

set_option maxRecDepth 100000 in
set_option maxHeartbeats 2000000 in
theorem law_s3 (x : Addr) (p k r c : Nat) (en : Bool) (xs : List Int) (w : World) (hx : xs.length = p + (k + 1) + 2 + r) (hn : p + (k + 1) + 2 + r ≤ 1048576) (hbB : x.block < w.heap.size) (hc : ∀ i, i < p + (k + 1) + 2 + r → w.cell? (x.add i) = some (.int .u8 (xs.getD i 0)))
    (h1 : xs.getD (p + (k + 1)) 0 = 13) (h2 : xs.getD (p + (k + 1) + 1) 0 = 10) (hno : ∀ i, i < k + 1 → xs.getD (p + i) 0 ≠ 10)
    (hz : ∀ w1 : World, (∀ i, i < p + (k + 1) + 2 + r → w1.cell? ⟨w.heap.size, i, none⟩ = some (.int .u8 (xs.getD i 0))) → Calls Try.prog 16 #[.slice (some ⟨w.heap.size, 0, none⟩) (p + (k + 1) + 2 + r) (p + (k + 1) + 2 + r), .int .i64 p, .bool en] w1 fun e w' => e = .returned (.tuple #[.slice (some ⟨w.heap.size, p, none⟩) (k + 1) (k + 1 + 2 + r), .int .i64 ((p + (k + 1) + 2 : Nat) : Int), .bool true, .bool true]) ∧ w' = w1) :
    Calls Try.prog 5 #[.slice (some x) (p + (k + 1) + 2 + r) c, .int .i64 p, .bool en] w fun e w' => e = .returned (.bool true) ∧ Below w.heap.size w w' := by
  have H15 := hide (clone_any x (p + (k + 1) + 2 + r) c xs w hx hn (fun _ => hbB) hc)
  have H14 := hide (zzBytes_in (some x) (p + (k + 1) + 2 + r) c p en w hn)
  have HZ := hide hz
  obtain ⟨g, hg⟩ : ∃ g, w.heap.size = g := ⟨_, rfl⟩
  have HX := hide hx
  have HNO := hide hno
  have H1 := hide h1
  have H2 := hide h2
  rw [hg] at H15 HZ
  have HG := hide hg
  clear hc hz hg hx hno h1 h2
  go_enter Try.func5, Try.ntmps5
  go_wp2_with (first | (go_at_call 14; refine H14.out.mono ?_; rintro e w' ⟨rfl, hw⟩; have hw' := hw.symm; subst hw') | (go_at_call 15; refine H15.out.mono ?_))
  clear H14 H15
  rintro e w1 ⟨rfl, hr1, hB1⟩
  have HC1 := hide (row_cells hr1)
  rw [HX.out] at HC1
  have HB := hide hB1
  have HCT0 : Hid _ := HC1.out (p + (k + 1)) (by omega)
  have HCT1 : Hid _ := HC1.out (p + (k + 1) + 1) (by omega)
  have HCE : Hid _ := HC1.out (p + k) (by omega)
  obtain ⟨y, hy⟩ : ∃ y, xs.getD (p + k) 0 = y := ⟨_, rfl⟩
  have HY := hide hy
  clear hy
  have H18 := hide (fun (a1 a2 : Option Addr) c1 c2 h1 h2 => same_any a1 a2 g p (k + 1) c1 c2 w1 (fun i => xs.getD (p + i) 0) (by omega) h1 h2 (fun i hi => HC1.out (p + i) (by omega)))
  have H17 := hide (fun m c2 => hasLF_none (some ⟨g, p, none⟩) g p (k + 1) c2 (w1.drewN m) (fun i => xs.getD (p + i) 0) (by omega) (fun _ => rfl) (fun i hi => HC1.out (p + i) (by omega)) HNO.out)
  have HZ1 := hide (HZ.out _ HC1.out)
  clear hr1 hB1 HZ HC1
  go_wp2_with (first | (go_at_call 16; refine HZ1.out.mono ?_; rintro e w' ⟨rfl, hw⟩; have hw' := hw.symm; subst hw') | (go_at_call 18; refine (H18.out _ _ _ _ (fun _ => rfl) (fun _ => rfl)).mono ?_))
  clear HZ1 H18
  rintro e w2 ⟨rfl, m, hw2⟩
  have HBm : Hid (Below g w w2) := by rw [hw2]; exact below_drewN HB.out m
  have hT0 : w2.cell? ⟨g, p + (k + 1), none⟩ = some (.int .u8 13) := by rw [hw2, ← H1.out]; exact HCT0.out
  have hT1 : w2.cell? ⟨g, p + (k + 1) + 1, none⟩ = some (.int .u8 10) := by rw [hw2, ← H2.out]; exact HCT1.out
  have hE : w2.cell? ⟨g, p + k, none⟩ = some (.int .u8 y) := by rw [hw2, ← HY.out]; exact HCE.out
  have H172 := hide (H17.out m)
  rw [← hw2] at H172
  clear hw2 HB HCT0 HCT1 HCE
  go_wp2_with (go_at_call 17; refine (H172.out _).mono ?_; rintro e w' ⟨rfl, hw⟩; have hw' := hw.symm; subst hw')
  go_ret
  exact ⟨rfl, by rw [HG.out]; exact HBm.out⟩

set_option maxRecDepth 100000 in
set_option maxHeartbeats 2000000 in
theorem law_z1 (x : Addr) (p c : Nat) (xs : List Int) (w : World) (hx : xs.length = 1 + p) (hn : 1 + p ≤ 1048576) (hbB : x.block < w.heap.size) (hc : ∀ i, i < 1 + p → w.cell? (x.add i) = some (.int .u8 (xs.getD i 0)))
    (h1 : xs.getD (p) 0 = 13)
    (hz : ∀ w1 : World, (∀ i, i < 1 + p → w1.cell? ⟨w.heap.size, i, none⟩ = some (.int .u8 (xs.getD i 0))) → Calls Try.prog 16 #[.slice (some ⟨w.heap.size, 0, none⟩) (1 + p) (1 + p), .int .i64 p, .bool true] w1 fun e w' => e = .returned (.tuple #[.slice (some ⟨w.heap.size, p, none⟩) 0 (1), .int .i64 ((p + 1 : Nat) : Int), .bool false, .bool true]) ∧ w' = w1) :
    Calls Try.prog 5 #[.slice (some x) (1 + p) c, .int .i64 p, .bool true] w fun e w' => e = .returned (.bool true) ∧ Below w.heap.size w w' := by
  have H15 := hide (clone_any x (1 + p) c xs w hx hn (fun _ => hbB) hc)
  have H14 := hide (zzBytes_in (some x) (1 + p) c p true w hn)
  have HZ := hide hz
  obtain ⟨g, hg⟩ : ∃ g, w.heap.size = g := ⟨_, rfl⟩
  have HX := hide hx
  have H1 := hide h1
  rw [hg] at H15 HZ
  have HG := hide hg
  clear hc hz hg hx h1
  go_enter Try.func5, Try.ntmps5
  go_wp2_with (first | (go_at_call 14; refine H14.out.mono ?_; rintro e w' ⟨rfl, hw⟩; have hw' := hw.symm; subst hw') | (go_at_call 15; refine H15.out.mono ?_))
  clear H14 H15
  rintro e w1 ⟨rfl, hr1, hB1⟩
  have HC1 := hide (row_cells hr1)
  rw [HX.out] at HC1
  have HB := hide hB1
  have HCT0 : Hid _ := HC1.out (p) (by omega)
  have H18 := hide (fun (a1 a2 : Option Addr) c1 c2 h1 h2 => same_any a1 a2 g p 0 c1 c2 w1 (fun i => xs.getD (p + i) 0) (by omega) h1 h2 (fun i hi => HC1.out (p + i) (by omega)))
  have H17 := hide (fun m c2 => hasLF_none (some ⟨g, p, none⟩) g p 0 c2 (w1.drewN m) (fun i => xs.getD (p + i) 0) (by omega) (fun _ => rfl) (fun i hi => HC1.out (p + i) (by omega)) (fun i hi => absurd hi (Nat.not_lt_zero _)))
  have HZ1 := hide (HZ.out _ HC1.out)
  clear hr1 hB1 HZ HC1
  go_wp2_with (first | (go_at_call 16; refine HZ1.out.mono ?_; rintro e w' ⟨rfl, hw⟩; have hw' := hw.symm; subst hw') | (go_at_call 18; refine (H18.out _ _ _ _ (fun _ => rfl) (fun _ => rfl)).mono ?_))
  clear HZ1 H18
  rintro e w2 ⟨rfl, m, hw2⟩
  have HBm : Hid (Below g w w2) := by rw [hw2]; exact below_drewN HB.out m
  have hT0 : w2.cell? ⟨g, p, none⟩ = some (.int .u8 13) := by rw [hw2, ← H1.out]; exact HCT0.out
  have H172 := hide (H17.out m)
  rw [← hw2] at H172
  clear hw2 HB HCT0
  have hq1 : ((p : Int) + 1 == 1 + (p : Int)) = true := by simp only [beq_iff_eq]; omega
  go_wp2_with (go_at_call 17; refine (H172.out _).mono ?_; rintro e w' ⟨rfl, hw⟩; have hw' := hw.symm; subst hw')
  go_ret
  exact ⟨rfl, by rw [HG.out]; exact HBm.out⟩

set_option maxRecDepth 100000 in
set_option maxHeartbeats 2000000 in
theorem law_z2 (x : Addr) (p r c : Nat) (en : Bool) (xs : List Int) (w : World) (hx : xs.length = p + 1 + r) (hn : p + 1 + r ≤ 1048576) (hbB : x.block < w.heap.size) (hc : ∀ i, i < p + 1 + r → w.cell? (x.add i) = some (.int .u8 (xs.getD i 0)))
    (h1 : xs.getD (p) 0 = 10)
    (hz : ∀ w1 : World, (∀ i, i < p + 1 + r → w1.cell? ⟨w.heap.size, i, none⟩ = some (.int .u8 (xs.getD i 0))) → Calls Try.prog 16 #[.slice (some ⟨w.heap.size, 0, none⟩) (p + 1 + r) (p + 1 + r), .int .i64 p, .bool en] w1 fun e w' => e = .returned (.tuple #[.slice (some ⟨w.heap.size, p, none⟩) 0 (1 + r), .int .i64 ((p + 1 : Nat) : Int), .bool true, .bool true]) ∧ w' = w1) :
    Calls Try.prog 5 #[.slice (some x) (p + 1 + r) c, .int .i64 p, .bool en] w fun e w' => e = .returned (.bool true) ∧ Below w.heap.size w w' := by
  have H15 := hide (clone_any x (p + 1 + r) c xs w hx hn (fun _ => hbB) hc)
  have H14 := hide (zzBytes_in (some x) (p + 1 + r) c p en w hn)
  have HZ := hide hz
  obtain ⟨g, hg⟩ : ∃ g, w.heap.size = g := ⟨_, rfl⟩
  have HX := hide hx
  have H1 := hide h1
  rw [hg] at H15 HZ
  have HG := hide hg
  clear hc hz hg hx h1
  go_enter Try.func5, Try.ntmps5
  go_wp2_with (first | (go_at_call 14; refine H14.out.mono ?_; rintro e w' ⟨rfl, hw⟩; have hw' := hw.symm; subst hw') | (go_at_call 15; refine H15.out.mono ?_))
  clear H14 H15
  rintro e w1 ⟨rfl, hr1, hB1⟩
  have HC1 := hide (row_cells hr1)
  rw [HX.out] at HC1
  have HB := hide hB1
  have HCT0 : Hid _ := HC1.out (p) (by omega)
  have H18 := hide (fun (a1 a2 : Option Addr) c1 c2 h1 h2 => same_any a1 a2 g p 0 c1 c2 w1 (fun i => xs.getD (p + i) 0) (by omega) h1 h2 (fun i hi => HC1.out (p + i) (by omega)))
  have H17 := hide (fun m c2 => hasLF_none (some ⟨g, p, none⟩) g p 0 c2 (w1.drewN m) (fun i => xs.getD (p + i) 0) (by omega) (fun _ => rfl) (fun i hi => HC1.out (p + i) (by omega)) (fun i hi => absurd hi (Nat.not_lt_zero _)))
  have HZ1 := hide (HZ.out _ HC1.out)
  clear hr1 hB1 HZ HC1
  go_wp2_with (first | (go_at_call 16; refine HZ1.out.mono ?_; rintro e w' ⟨rfl, hw⟩; have hw' := hw.symm; subst hw') | (go_at_call 18; refine (H18.out _ _ _ _ (fun _ => rfl) (fun _ => rfl)).mono ?_))
  clear HZ1 H18
  rintro e w2 ⟨rfl, m, hw2⟩
  have HBm : Hid (Below g w w2) := by rw [hw2]; exact below_drewN HB.out m
  have hT0 : w2.cell? ⟨g, p, none⟩ = some (.int .u8 10) := by rw [hw2, ← H1.out]; exact HCT0.out
  have H172 := hide (H17.out m)
  rw [← hw2] at H172
  clear hw2 HB HCT0
  go_wp2_with (go_at_call 17; refine (H172.out _).mono ?_; rintro e w' ⟨rfl, hw⟩; have hw' := hw.symm; subst hw')
  go_ret
  exact ⟨rfl, by rw [HG.out]; exact HBm.out⟩

set_option maxRecDepth 100000 in
set_option maxHeartbeats 2000000 in
theorem law_z3 (x : Addr) (p r c : Nat) (en : Bool) (xs : List Int) (w : World) (hx : xs.length = p + 2 + r) (hn : p + 2 + r ≤ 1048576) (hbB : x.block < w.heap.size) (hc : ∀ i, i < p + 2 + r → w.cell? (x.add i) = some (.int .u8 (xs.getD i 0)))
    (h1 : xs.getD (p) 0 = 13) (h2 : xs.getD (p + 1) 0 = 10)
    (hz : ∀ w1 : World, (∀ i, i < p + 2 + r → w1.cell? ⟨w.heap.size, i, none⟩ = some (.int .u8 (xs.getD i 0))) → Calls Try.prog 16 #[.slice (some ⟨w.heap.size, 0, none⟩) (p + 2 + r) (p + 2 + r), .int .i64 p, .bool en] w1 fun e w' => e = .returned (.tuple #[.slice (some ⟨w.heap.size, p, none⟩) 0 (2 + r), .int .i64 ((p + 2 : Nat) : Int), .bool true, .bool true]) ∧ w' = w1) :
    Calls Try.prog 5 #[.slice (some x) (p + 2 + r) c, .int .i64 p, .bool en] w fun e w' => e = .returned (.bool true) ∧ Below w.heap.size w w' := by
  have H15 := hide (clone_any x (p + 2 + r) c xs w hx hn (fun _ => hbB) hc)
  have H14 := hide (zzBytes_in (some x) (p + 2 + r) c p en w hn)
  have HZ := hide hz
  obtain ⟨g, hg⟩ : ∃ g, w.heap.size = g := ⟨_, rfl⟩
  have HX := hide hx
  have H1 := hide h1
  have H2 := hide h2
  rw [hg] at H15 HZ
  have HG := hide hg
  clear hc hz hg hx h1 h2
  go_enter Try.func5, Try.ntmps5
  go_wp2_with (first | (go_at_call 14; refine H14.out.mono ?_; rintro e w' ⟨rfl, hw⟩; have hw' := hw.symm; subst hw') | (go_at_call 15; refine H15.out.mono ?_))
  clear H14 H15
  rintro e w1 ⟨rfl, hr1, hB1⟩
  have HC1 := hide (row_cells hr1)
  rw [HX.out] at HC1
  have HB := hide hB1
  have HCT0 : Hid _ := HC1.out (p) (by omega)
  have HCT1 : Hid _ := HC1.out (p + 1) (by omega)
  have H18 := hide (fun (a1 a2 : Option Addr) c1 c2 h1 h2 => same_any a1 a2 g p 0 c1 c2 w1 (fun i => xs.getD (p + i) 0) (by omega) h1 h2 (fun i hi => HC1.out (p + i) (by omega)))
  have H17 := hide (fun m c2 => hasLF_none (some ⟨g, p, none⟩) g p 0 c2 (w1.drewN m) (fun i => xs.getD (p + i) 0) (by omega) (fun _ => rfl) (fun i hi => HC1.out (p + i) (by omega)) (fun i hi => absurd hi (Nat.not_lt_zero _)))
  have HZ1 := hide (HZ.out _ HC1.out)
  clear hr1 hB1 HZ HC1
  go_wp2_with (first | (go_at_call 16; refine HZ1.out.mono ?_; rintro e w' ⟨rfl, hw⟩; have hw' := hw.symm; subst hw') | (go_at_call 18; refine (H18.out _ _ _ _ (fun _ => rfl) (fun _ => rfl)).mono ?_))
  clear HZ1 H18
  rintro e w2 ⟨rfl, m, hw2⟩
  have HBm : Hid (Below g w w2) := by rw [hw2]; exact below_drewN HB.out m
  have hT0 : w2.cell? ⟨g, p, none⟩ = some (.int .u8 13) := by rw [hw2, ← H1.out]; exact HCT0.out
  have hT1 : w2.cell? ⟨g, p + 1, none⟩ = some (.int .u8 10) := by rw [hw2, ← H2.out]; exact HCT1.out
  have H172 := hide (H17.out m)
  rw [← hw2] at H172
  clear hw2 HB HCT0 HCT1
  go_wp2_with (go_at_call 17; refine (H172.out _).mono ?_; rintro e w' ⟨rfl, hw⟩; have hw' := hw.symm; subst hw')
  go_ret
  exact ⟨rfl, by rw [HG.out]; exact HBm.out⟩
end Go.Proofs.Qxb6604140a.Cs

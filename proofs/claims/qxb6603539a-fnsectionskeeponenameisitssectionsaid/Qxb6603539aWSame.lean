import Derived.Test.Qxb6603539aMod0
import Derived.Test.Qxb6603539aWIdx
import Derived.BigQuiet
namespace Go.Proofs.Qxb6603539a.Ds
open Go.RowKit

/-! ### Sections as a reader finds them -/
def RdV (W : World) (v : Value) (L : List ByteArray) : Prop := ∃ a cp b o, v = .slice a L.length cp ∧ (0 < L.length → a = some ⟨b, o, none⟩) ∧ (0 < L.length → b < W.heap.size) ∧ ∀ l, l < L.length → W.cell? ⟨b, o + l, none⟩ = some (.string (L.getD l ByteArray.empty))
def RdK (W : World) (v : Value) (K : List Ky) : Prop := ∃ a cp b o, ∃ vv : Nat → Value, v = .slice a K.length cp ∧ (0 < K.length → a = some ⟨b, o, none⟩) ∧ (0 < K.length → b < W.heap.size) ∧ ∀ j, j < K.length → W.cell? ⟨b, o + j * 2, none⟩ = some (.string (kat K j).nm) ∧ W.cell? ⟨b, o + j * 2 + 1, none⟩ = some (vv j) ∧ RdV W (vv j) (kat K j).vs
def RdS (W : World) (v : Value) (S : List Sc) : Prop := ∃ a cp b o, ∃ kv : Nat → Value, v = .slice a S.length cp ∧ (0 < S.length → a = some ⟨b, o, none⟩) ∧ (0 < S.length → b < W.heap.size) ∧ ∀ i, i < S.length → W.cell? ⟨b, o + i * 2, none⟩ = some (.string (sat S i).nm) ∧ W.cell? ⟨b, o + i * 2 + 1, none⟩ = some (kv i) ∧ RdK W (kv i) (sat S i).ks
theorem RdV.below {W W' : World} {v : Value} {L : List ByteArray} (h : RdV W v L) (hb : Below W.heap.size W W') : RdV W' v L := by
  obtain ⟨a, cp, b, o, h1, h2, h3, h4⟩ := h
  exact ⟨a, cp, b, o, h1, h2, fun h => Nat.lt_of_lt_of_le (h3 h) hb.size, fun l hl => (hb.cell (p := ⟨b, o + l, none⟩) (h3 (by omega))).trans (h4 l hl)⟩
theorem RdK.below {W W' : World} {v : Value} {L : List Ky} (h : RdK W v L) (hb : Below W.heap.size W W') : RdK W' v L := by
  obtain ⟨a, cp, b, o, vv, h1, h2, h3, h4⟩ := h
  exact ⟨a, cp, b, o, vv, h1, h2, fun h => Nat.lt_of_lt_of_le (h3 h) hb.size, fun l hl => ⟨(hb.cell (p := ⟨b, o + l * 2, none⟩) (h3 (by omega))).trans (h4 l hl).1, (hb.cell (p := ⟨b, o + l * 2 + 1, none⟩) (h3 (by omega))).trans (h4 l hl).2.1, (h4 l hl).2.2.below hb⟩⟩
theorem RdS.below {W W' : World} {v : Value} {L : List Sc} (h : RdS W v L) (hb : Below W.heap.size W W') : RdS W' v L := by
  obtain ⟨a, cp, b, o, vv, h1, h2, h3, h4⟩ := h
  exact ⟨a, cp, b, o, vv, h1, h2, fun h => Nat.lt_of_lt_of_le (h3 h) hb.size, fun l hl => ⟨(hb.cell (p := ⟨b, o + l * 2, none⟩) (h3 (by omega))).trans (h4 l hl).1, (hb.cell (p := ⟨b, o + l * 2 + 1, none⟩) (h3 (by omega))).trans (h4 l hl).2.1, (h4 l hl).2.2.below hb⟩⟩

theorem Rep.rd {t1 t2 : TypeId} {base : Nat} {W : World} {v : Value} {S : List Sc} (h : Rep t1 t2 base W v S) : RdS W v S := by
  obtain ⟨kv, vv, φk, φv, h⟩ := h
  have hV : ∀ i j, i < S.length → j < (sat S i).ks.length → RdV W (vv i j) (kat (sat S i).ks j).vs := fun i j hi hj => by
    have ho := h.vals i j hi hj
    obtain ⟨a, cp, e⟩ := own_slice ho
    by_cases h0 : 0 < (kat (sat S i).ks j).vs.length
    · obtain ⟨g, cp', e2, _, _, hl, _, hc, _⟩ := own_at ho h0
      refine ⟨_, cp', g, 0, e2, fun _ => rfl, fun _ => hl, fun l hl' => ?_⟩
      rw [Nat.zero_add, hc l (by omega)]
      simp [List.getD, hl']
    · exact ⟨a, cp, 0, 0, e, fun h => absurd h h0, fun h => absurd h h0, fun l hl' => by omega⟩
  have hK : ∀ i, i < S.length → RdK W (kv i) (sat S i).ks := fun i hi => by
    have ho := h.keys i hi
    obtain ⟨a, cp, e⟩ := own_slice ho
    by_cases h0 : 0 < (sat S i).ks.length
    · obtain ⟨g, cp', e2, _, _, hl, _, hc, _⟩ := own_at ho h0
      refine ⟨_, cp', g, 0, vv i, e2, fun _ => rfl, fun _ => hl, fun j hj => ⟨?_, ?_, hV i j hi hj⟩⟩
      · rw [Nat.zero_add, hc _ (by omega), pairs_0 _ _ _ _ hj]
      · rw [Nat.zero_add, hc _ (by omega), pairs_1 _ _ _ _ hj]
    · exact ⟨a, cp, 0, 0, vv i, e, fun h => absurd h h0, fun h => absurd h h0, fun l hl' => by omega⟩
  have ho := h.row
  obtain ⟨a, cp, e⟩ := own_slice ho
  by_cases h0 : 0 < S.length
  · obtain ⟨g, cp', e2, _, _, hl, _, hc, _⟩ := own_at ho h0
    refine ⟨_, cp', g, 0, kv, e2, fun _ => rfl, fun _ => hl, fun j hj => ⟨?_, ?_, hK j hj⟩⟩
    · rw [Nat.zero_add, hc _ (by omega), pairs_0 _ _ _ _ hj]
    · rw [Nat.zero_add, hc _ (by omega), pairs_1 _ _ _ _ hj]
  · exact ⟨a, cp, 0, 0, kv, e, fun h => absurd h h0, fun h => absurd h h0, fun l hl' => by omega⟩

set_option maxHeartbeats 8000000 in
set_option maxRecDepth 100000 in
theorem same_any (v1 v2 : Value) (S : List Sc) (Q : Nat) (w : World) (h1 : RdS w v1 S) (h2 : RdS w v2 S) (hwf : WF Q S) (hQ : Q ≤ 3000000000000) :
    Calls Try.prog 21 #[v1, v2] w fun e w' => e = .returned (.bool true) ∧ Below w.heap.size w w' := by
  have HWF : Hid (WF 3000000000000 S) := hwf.mono hQ
  have hn : S.length ≤ 3000000000000 := HWF.out.len
  have HR1 : Hid (∀ W, Below w.heap.size w W → RdS W v1 S) := fun W h => h1.below h
  have HR2 : Hid (∀ W, Below w.heap.size w W → RdS W v2 S) := fun W h => h2.below h
  obtain ⟨a1, c1, -, -, -, rfl, -⟩ := h1
  obtain ⟨a2, c2, -, -, -, rfl, -⟩ := h2
  have HB0 : Hid (Below w.heap.size w w) := Below.refl _ _
  have HBS : Hid (∀ W, Below w.heap.size w W → w.heap.size ≤ W.heap.size) := fun W h => h.size
  obtain ⟨B, hB⟩ : ∃ B, w.heap.size = B := ⟨_, rfl⟩
  rw [hB] at HR1 HR2 HB0 HBS ⊢
  clear hwf hB
  obtain ⟨n, hnn⟩ : ∃ n, S.length = n := ⟨_, rfl⟩
  have HN := hide hnn
  rw [hnn] at HR1 HR2 hn ⊢
  clear hnn
  go_enter Try.func21, Try.ntmps21
  go_wp2
  go_loopw [5] (fun t5 wr => ∃ i : Nat, i ≤ n ∧ t5 = .int .i64 i ∧ Hid (Below B w wr)) (fun t5 _ => n - (intOf t5).toNat)
  case atStart => exact ⟨0, Nat.zero_le _, rfl, HB0⟩
  case round =>
    clear HB0
    obtain ⟨i, hin, rfl, HB⟩ := hrel
    by_cases hlt : i < n
    · obtain ⟨a1', c1', b1, o1, kv1, e1, ha1, hb1, hc1⟩ := HR1.out wr HB.out
      obtain ⟨a2', c2', b2, o2, kv2, e2, ha2, hb2, hc2⟩ := HR2.out wr HB.out
      obtain ⟨rfl, -, rfl⟩ := Value.slice.inj e1
      obtain ⟨rfl, -, rfl⟩ := Value.slice.inj e2
      obtain rfl := ha1 (by rw [HN.out]; omega)
      obtain rfl := ha2 (by rw [HN.out]; omega)
      obtain ⟨x1, y1, z1⟩ := hc1 i (by rw [HN.out]; exact hlt)
      obtain ⟨x2, y2, z2⟩ := hc2 i (by rw [HN.out]; exact hlt)
      have hkl := HWF.out.klen i (by rw [HN.out]; exact hlt)
      have HVL : Hid (∀ j, j < (sat S i).ks.length → (kat (sat S i).ks j).vs.length ≤ 3000000000000) := fun j hj => HWF.out.vlen i j (by rw [HN.out]; exact hlt) hj
      have HBl1 := hide (hb1 (by rw [HN.out]; omega))
      have HBl2 := hide (hb2 (by rw [HN.out]; omega))
      generalize (sat S i).nm = nm at x1 x2
      generalize (sat S i).ks = K at z1 z2 hkl HVL
      have HZ1 : Hid (∀ W, Below wr.heap.size wr W → RdK W (kv1 i) K) := fun W h => z1.below h
      have HZ2 : Hid (∀ W, Below wr.heap.size wr W → RdK W (kv2 i) K) := fun W h => z2.below h
      obtain ⟨ak1, ck1, -, -, -, e3, -⟩ := z1
      obtain ⟨ak2, ck2, -, -, -, e4, -⟩ := z2
      rw [e3] at y1 HZ1
      rw [e4] at y2 HZ2
      clear e1 e2 e3 e4 hc1 hc2 ha1 ha2 hb1 hb2
      obtain ⟨q, hq⟩ : ∃ q, K.length = q := ⟨_, rfl⟩
      have HQ := hide hq
      rw [hq] at y1 y2 hkl HZ1 HZ2 HVL
      clear hq
      have hbn : (nm.toList != nm.toList) = false := bne_self_eq_false _
      have hbq : ((q : Int) != (q : Int)) = false := bne_self_eq_false _
      have hi1 : (i : Int) < (n : Int) := by omega
      have hi0 : (0 : Int) ≤ (i : Int) := by omega
      go_wp2
      go_quiet (fail)
      obtain ⟨Bel, hBel⟩ : ∃ P : World → Prop, P = Below wr.heap.size wr := ⟨_, rfl⟩
      have HBe : Hid (∀ W, Bel W → Below B w W) := fun W h => by rw [hBel] at h; exact HB.out.trans (h.mono (HBS.out _ HB.out))
      have HBA : Hid (∀ W o, Bel W → Bel (W.alloc o)) := fun W o h => by rw [hBel] at h ⊢; exact h.alloc h.size o
      have HBD : Hid (∀ W m, Bel W → Bel (W.drewN m)) := fun W m h => by rw [hBel] at h ⊢; exact below_drewN h m
      have HY1 : Hid (∀ W, Bel W → W.cell? ⟨b1, o1 + i * 2 + 1, none⟩ = some (.slice ak1 q ck1)) := fun W h => by rw [hBel] at h; exact (h.cell (p := ⟨b1, o1 + i * 2 + 1, none⟩) HBl1.out).trans y1
      have HY2 : Hid (∀ W, Bel W → W.cell? ⟨b2, o2 + i * 2 + 1, none⟩ = some (.slice ak2 q ck2)) := fun W h => by rw [hBel] at h; exact (h.cell (p := ⟨b2, o2 + i * 2 + 1, none⟩) HBl2.out).trans y2
      have HB0 : Hid (Bel (wr.drewN nq)) := by rw [hBel]; exact below_drewN (Below.refl _ _) nq
      rw [← hBel] at HZ1 HZ2
      generalize wr.drewN nq = wq at HB0
      clear x1 x2 y1 y2 hbn hbq hBel HB HBl1 HBl2
      go_wp2
      go_loopw [6] (fun t6 wx => ∃ j : Nat, j ≤ q ∧ t6 = .int .i64 j ∧ Hid (Bel wx)) (fun t6 _ => q - (intOf t6).toNat)
      case atStart => exact ⟨0, Nat.zero_le _, rfl, HB0⟩
      case round =>
        clear HB0
        obtain ⟨j, hjq, rfl, HB⟩ := hrel
        have y1 := HY1.out _ HB.out
        have y2 := HY2.out _ HB.out
        by_cases hjt : j < q
        · obtain ⟨a3, c3, b3, o3, vv3, e3, ha3, hb3, hc3⟩ := HZ1.out _ HB.out
          obtain ⟨a4, c4, b4, o4, vv4, e4, ha4, hb4, hc4⟩ := HZ2.out _ HB.out
          obtain ⟨rfl, -, rfl⟩ := Value.slice.inj e3
          obtain ⟨rfl, -, rfl⟩ := Value.slice.inj e4
          obtain rfl := ha3 (by rw [HQ.out]; omega)
          obtain rfl := ha4 (by rw [HQ.out]; omega)
          obtain ⟨p1, r1, s1⟩ := hc3 j (by rw [HQ.out]; exact hjt)
          obtain ⟨p2, r2, s2⟩ := hc4 j (by rw [HQ.out]; exact hjt)
          have hvl := HVL.out j hjt
          have HBl3 := hide (hb3 (by rw [HQ.out]; omega))
          have HBl4 := hide (hb4 (by rw [HQ.out]; omega))
          generalize (kat K j).nm = km at p1 p2
          generalize (kat K j).vs = L at s1 s2 hvl
          have HS1 : Hid (∀ W, Below wr.heap.size wr W → RdV W (vv3 j) L) := fun W h => s1.below h
          have HS2 : Hid (∀ W, Below wr.heap.size wr W → RdV W (vv4 j) L) := fun W h => s2.below h
          obtain ⟨a5, c5, -, -, e5, -⟩ := s1
          obtain ⟨a6, c6, -, -, e6, -⟩ := s2
          rw [e5] at r1 HS1
          rw [e6] at r2 HS2
          clear e3 e4 e5 e6 hc3 hc4 ha3 ha4 hb3 hb4
          obtain ⟨t, ht⟩ : ∃ t, L.length = t := ⟨_, rfl⟩
          have HTT := hide ht
          rw [ht] at r1 r2 hvl HS1 HS2
          clear ht
          have hbn : (km.toList != km.toList) = false := bne_self_eq_false _
          have hbq : ((t : Int) != (t : Int)) = false := bne_self_eq_false _
          have hj1 : (j : Int) < (q : Int) := by omega
          have hj0 : (0 : Int) ≤ (j : Int) := by omega
          have ha1 : Below wr.heap.size wr (wr.alloc (.cells #[.string km, .slice a5 t c5] 78)) := (Below.refl _ _).alloc (Nat.le_refl _) _
          have y2a := HY2.out _ (HBA.out _ (.cells #[.string km, .slice a5 t c5] 78) HB.out)
          have p2a := (ha1.cell (p := ⟨b4, o4 + j * 2, none⟩) HBl4.out).trans p2
          have r2a := (ha1.cell (p := ⟨b4, o4 + j * 2 + 1, none⟩) HBl4.out).trans r2
          have HAA : Hid (Below wr.heap.size wr ((wr.alloc (.cells #[.string km, .slice a5 t c5] 78)).alloc (.cells #[.string km, .slice a6 t c6] 80))) := ha1.alloc (by simp) _
          have HBAA : Hid (Bel ((wr.alloc (.cells #[.string km, .slice a5 t c5] 78)).alloc (.cells #[.string km, .slice a6 t c6] 80))) := HBA.out _ _ (HBA.out _ _ HB.out)
          have HG1 : Hid (((wr.alloc (.cells #[.string km, .slice a5 t c5] 78)).alloc (.cells #[.string km, .slice a6 t c6] 80)).heap[wr.heap.size]? = some (.cells #[.string km, .slice a5 t c5] 78 (0, 0))) := (Below.heap_alloc _ _ _ (by simp)).trans (heap_alloc_new _ _)
          have HG2 : Hid (((wr.alloc (.cells #[.string km, .slice a5 t c5] 78)).alloc (.cells #[.string km, .slice a6 t c6] 80)).heap[wr.heap.size + 1]? = some (.cells #[.string km, .slice a6 t c6] 80 (0, 0))) := by have := heap_alloc_new (wr.alloc (.cells #[.string km, .slice a5 t c5] 78)) (.cells #[.string km, .slice a6 t c6] 80); rw [show (wr.alloc (.cells #[.string km, .slice a5 t c5] 78)).heap.size = wr.heap.size + 1 by simp] at this; exact this
          clear ha1
          go_wp2
          have HV1 : Hid (∀ m, RdV (((wr.alloc (.cells #[.string km, .slice a5 t c5] 78)).alloc (.cells #[.string km, .slice a6 t c6] 80)).drewN m) (.slice a5 t c5) L) := fun m => HS1.out _ (below_drewN HAA.out m)
          have HV2 : Hid (∀ m, RdV (((wr.alloc (.cells #[.string km, .slice a5 t c5] 78)).alloc (.cells #[.string km, .slice a6 t c6] 80)).drewN m) (.slice a6 t c6) L) := fun m => HS2.out _ (below_drewN HAA.out m)
          have HE1 : Hid (∀ m, (((wr.alloc (.cells #[.string km, .slice a5 t c5] 78)).alloc (.cells #[.string km, .slice a6 t c6] 80)).drewN m).cell? ⟨wr.heap.size, 1, none⟩ = some (.slice a5 t c5)) := fun m => by rw [cell_of_row _ _ 1 _ _ _ (show (((wr.alloc (.cells #[.string km, .slice a5 t c5] 78)).alloc (.cells #[.string km, .slice a6 t c6] 80)).drewN m).heap[wr.heap.size]? = _ from HG1.out)]; rfl
          have HE2 : Hid (∀ m, (((wr.alloc (.cells #[.string km, .slice a5 t c5] 78)).alloc (.cells #[.string km, .slice a6 t c6] 80)).drewN m).cell? ⟨wr.heap.size + 1, 1, none⟩ = some (.slice a6 t c6)) := fun m => by rw [cell_of_row _ _ 1 _ _ _ (show (((wr.alloc (.cells #[.string km, .slice a5 t c5] 78)).alloc (.cells #[.string km, .slice a6 t c6] 80)).drewN m).heap[wr.heap.size + 1]? = _ from HG2.out)]; rfl
          clear HG1 HG2 HAA HS1 HS2 HBl3 HBl4 p1 p2 p2a r1 r2 r2a y1 y2 y2a hbn hbq HB
          generalize (wr.alloc (.cells #[.string km, .slice a5 t c5] 78)).alloc (.cells #[.string km, .slice a6 t c6] 80) = W0 at HV1 HV2 HE1 HE2 HBAA ⊢
          generalize wr.heap.size = z7 at HE1 HE2 ⊢
          go_loopw [9] (fun t9 wx => ∃ l m : Nat, l ≤ t ∧ t9 = .int .i64 l ∧ Hid (wx = W0.drewN m)) (fun t9 _ => t - (intOf t9).toNat)
          case atStart => exact ⟨0, 0, Nat.zero_le _, rfl, rfl⟩
          case round =>
            obtain ⟨l, mm, hlt3, rfl, HWX⟩ := hrel
            have y1 := HE1.out mm
            have y2 := HE2.out mm
            rw [← HWX.out] at y1 y2
            by_cases hl3 : l < t
            · have hV1 := HV1.out mm
              have hV2 := HV2.out mm
              rw [← HWX.out] at hV1 hV2
              obtain ⟨a7, c7, b7, o7, e7, ha7, hb7, hc7⟩ := hV1
              obtain ⟨a8, c8, b8, o8, e8, ha8, hb8, hc8⟩ := hV2
              obtain ⟨rfl, -, rfl⟩ := Value.slice.inj e7
              obtain ⟨rfl, -, rfl⟩ := Value.slice.inj e8
              obtain rfl := ha7 (by rw [HTT.out]; omega)
              obtain rfl := ha8 (by rw [HTT.out]; omega)
              have d1 := hc7 l (by rw [HTT.out]; exact hl3)
              have d2 := hc8 l (by rw [HTT.out]; exact hl3)
              generalize L.getD l ByteArray.empty = xv at d1 d2
              have hbx : (xv.toList != xv.toList) = false := bne_self_eq_false _
              have hl1 : (l : Int) < (t : Int) := by omega
              have hl0 : (0 : Int) ≤ (l : Int) := by omega
              clear e7 e8 ha7 ha8 hb7 hb8 hc7 hc8
              go_wp2
              go_quiet (fail)
              go_wp2
              go_roundw
              case rel => exact ⟨l + 1, mm + nq, by omega, by go_num, by show _ = _; rw [HWX.out, World.drewN_drewN]⟩
              case measure => simp [intOf]; omega
            · obtain rfl : l = t := by omega
              have HBm := hide (HBD.out _ mm HBAA.out)
              rw [← HWX.out] at HBm
              go_wp2
              go_roundw
              case rel => exact ⟨j + 1, by omega, by go_num, HBm⟩
              case measure => simp [intOf]; omega
        · obtain rfl : j = q := by omega
          go_wp2
          go_roundw
          case rel => exact ⟨i + 1, by omega, by go_num, HBe.out _ HB.out⟩
          case measure => simp [intOf]; omega
    · obtain rfl : i = n := by omega
      go_wp2
      go_ret
      exact ⟨rfl, HB.out⟩
end Go.Proofs.Qxb6603539a.Ds

import Derived.Test.Qxb6603539aWCfg
namespace Go.Proofs.Qxb6603539a.Ds
open Go.RowKit
attribute [local go_sem] Oper.semAt_some

/-- What the iterator knows of memory between two files. -/
structure Cg (N0 Bc By l : Nat) (fa : Option Addr) (fb : Nat) (prec : Int) (fs : List Fl) (Ds : List Nat) (W : World) : Prop where
  sz : N0 ≤ W.heap.size
  cf : W.heap[Bc]? = some (.cells #[.slice fa fs.length fs.length, .int .i64 prec] 51 (0, 0))
  cy : W.heap[By]? = some (.cells #[.func (.yield l) #[] #[]] 112 (0, 0))
  fl : FilesAt W fa fb fs
  ds : ∀ D ∈ Ds, N0 ≤ D ∧ W.heap[D]? = some (.deferred (some []))
section
variable {N0 Bc By l : Nat} {fa : Option Addr} {fb : Nat} {prec : Int} {fs : List Fl} {Ds : List Nat} {W W' : World}
theorem Cg.kp (h : Cg N0 Bc By l fa fb prec fs Ds W) (hk : Kp W W') (hf : KeepsFrom N0 W W') : Cg N0 Bc By l fa fb prec fs Ds W' :=
  ⟨Nat.le_trans h.sz hk.size, hk.same _ _ _ _ h.cf (by unfold envT; simp), hk.same _ _ _ _ h.cy (by unfold envT; simp), h.fl.kp hk, fun D hD => ⟨(h.ds D hD).1, hf.same _ _ (h.ds D hD).1 (h.ds D hD).2 rfl⟩⟩
theorem keepsFrom_alloc (B : Nat) (W : World) (o : Obj) : KeepsFrom B W (W.alloc o) := (KeepsOthers.alloc _ _).from _
theorem Cg.alloc (h : Cg N0 Bc By l fa fb prec fs Ds W) (o : Obj) : Cg N0 Bc By l fa fb prec fs Ds (W.alloc o) := h.kp ((Kp.refl _).alloc o) (keepsFrom_alloc _ _ _)
theorem Cg.drew (h : Cg N0 Bc By l fa fb prec fs Ds W) : Cg N0 Bc By l fa fb prec fs Ds W.drew := h.kp (Kp.refl _).drew ⟨Nat.le_refl _, fun _ _ _ h _ => h⟩
end

theorem Cg.cell {N0 Bc By l : Nat} {fa : Option Addr} {fb : Nat} {prec : Int} {fs : List Fl} {Ds : List Nat} {W : World} {r j : Nat} {c : Array Value} {fr : Nat × Nat} (h : Cg N0 Bc By l fa fb prec fs Ds W) (hr : W.heap[r]? = some (.cells c 94 fr)) (v : Value) : Cg N0 Bc By l fa fb prec fs Ds (W.setCell ⟨r, j, none⟩ v) := by
  have o : ∀ (i : Nat) (ob : Obj), W.heap[i]? = some ob → (∀ c' fr', ob ≠ .cells c' 94 fr') → (W.setCell ⟨r, j, none⟩ v).heap[i]? = some ob := fun i ob hi hne => by
    rw [Below.heap_setCell _ _ _ _ (fun e => by subst e; rw [hr] at hi; cases hi; exact hne _ _ rfl)]; exact hi
  refine ⟨Nat.le_trans h.sz (by simp [World.setCell]), o _ _ h.cf (by simp), o _ _ h.cy (by simp), ⟨h.fl.row.imp id (fun x => ⟨x.1, o _ _ x.2 (by simp)⟩), fun f hf => ⟨o _ _ (h.fl.each f hf).1 (by simp), (h.fl.each f hf).2.kept (fun x => o _ _ x (by simp))⟩⟩, fun D hD => ⟨(h.ds D hD).1, o _ _ (h.ds D hD).2 (by simp)⟩⟩
theorem Cg.put {N0 Bc By l : Nat} {fa : Option Addr} {fb : Nat} {prec : Int} {fs : List Fl} {Ds : List Nat} {W : World} {r : Nat} {ob : Obj} (h : Cg N0 Bc By l fa fb prec fs Ds W) (hr : W.heap[r]? = some ob) (hc : ob.isCells = false) (hD : ∀ D ∈ Ds, D < r) (o' : Obj) : Cg N0 Bc By l fa fb prec fs Ds (W.putObj r o') := by
  have hk := Kp.putObj W r ob o' hr hc
  exact ⟨Nat.le_trans h.sz hk.size, hk.same _ _ _ _ h.cf (by unfold envT; simp), hk.same _ _ _ _ h.cy (by unfold envT; simp), h.fl.kp hk, fun D hDm => ⟨(h.ds D hDm).1, (World.putObj_heap_other (by have := hD D hDm; omega)).trans (h.ds D hDm).2⟩⟩

theorem leaves_marks {n : Nat} {P : Program} {fn : Func} {tmps : Array Value} {R : Ending → World → Prop} {J : World → Prop} {N0 : Nat} (hres : fn.results = #[]) (hput : ∀ W l o o', J W → N0 ≤ l → W.heap[l]? = some o → o.isCells = false → J (W.putObj l o')) (hR : ∀ W v, J W → R (.returned v) W) :
    ∀ (Ds : List Nat) (W : World), Ds.Nodup → (∀ D ∈ Ds, N0 ≤ D ∧ W.heap[D]? = some (.deferred (some []))) → J W → LeavesInM Fence.wide n P fn tmps R (Ds.map mark) .returning W
  | [], W, _, _, hJ => ⟨.tuple #[], by simp [results, hres], hR _ _ hJ⟩
  | D :: Ds, W, hn, h, hJ => by
    have h1 := h D (by simp)
    refine ⟨by simp, .inl ⟨D, _, rfl, run_takeDeferred h1.2, ?_⟩⟩
    refine leaves_marks hres hput hR Ds _ (List.nodup_cons.1 hn).2 (fun D' hD' => ⟨(h D' (by simp [hD'])).1, ?_⟩) (hput _ _ _ _ hJ h1.1 h1.2 rfl)
    rw [World.putObj_heap_other (fun e => by subst e; exact (List.nodup_cons.1 hn).1 hD')]
    exact (h D' (by simp [hD'])).2

/-- The frame of a round within a file. -/
def AxC (l Bc B0 Bv : Nat) (fa : Option Addr) (nf k : Nat) (s11 s12 s13 s14 s16 s17 s18 s19 s20 s21 : Value) (x : Part) (a' : Act) (W : World) : Prop :=
  ∃ Bx, W.heap[Bx]? = some (.cells #[.string x.nm, .int .i64 x.h, .int .i64 x.e] 94 (0, 0)) ∧
    a' = { tmps := #[.func (.yield l) #[] #[], .pointer (some ⟨Bc, 0, none⟩), .pointer (some ⟨B0, 0, none⟩), undef, .pointer (some ⟨Bv, 0, none⟩), .pointer (some ⟨Bx, 0, none⟩), .pointer (some ⟨Bc, 0, none⟩), .slice fa nf nf, .int .i64 nf, .int .i64 k, .bool true, s11, s12, s13, s14, .agg #[.string x.nm, .int .i64 x.h, .int .i64 x.e], s16, s17, s18, s19, s20, s21], defers := [] }

set_option maxHeartbeats 4000000 in
set_option maxRecDepth 100000 in
theorem cfg_gives (n : Nat) (hn : 3 ≤ n) (Bc fb : Nat) (fa : Option Addr) (prec : Int) (fs : List Fl) (w : World) (hc : w.heap[Bc]? = some (.cells #[.slice fa fs.length fs.length, .int .i64 prec] 51 (0, 0))) (hfs : FilesAt w fa fb fs) (hok : ∀ f ∈ fs, FOk f) (hnf : fs.length ≤ 1048576) :
    Gives Fence.wide n Try.prog 49 #[.pointer (some ⟨Bc, 0, none⟩)] encFP ownT Kp (fileParts fs) w := by
  intro l J W hbel hJ hY hJ0
  have hkpW := Kp.of_below hbel
  have hcg : Cg W.heap.size Bc W.heap.size l fa fb prec fs [] (W.alloc (.cells #[.func (.yield l) #[] #[]] 112)) := by
    have hk : Kp w (W.alloc (.cells #[.func (.yield l) #[] #[]] 112)) := hkpW.alloc _
    exact ⟨by simp, hk.same _ _ _ _ hc (by unfold envT; simp), heap_alloc_new _ _, hfs.kp hk, fun D hD => by simp at hD⟩
  have HCG := hide hcg
  have HJW := hide (hJ.alloc _ _ (.cells #[.func (.yield l) #[] #[]] 112) hJ0)
  have HJ := hide hJ
  have HY := hide hY
  have HOK := hide hok
  have hBcW : Bc < W.heap.size := by have := hbel.size; have := lt_of_some hc; omega
  have c0 : W.cell? ⟨Bc, 0, none⟩ = some (.slice fa fs.length fs.length) := by
    have := (hkpW.same _ _ _ _ hc (by unfold envT; simp)); rw [cell_of_row W _ 0 _ _ _ this]; rfl
  clear hcg hJ hY hok hc hfs hJ0 hbel hkpW
  refine callsIn_of_wp_marks Try.func49 rfl trivial ?_ rfl
  simp only [Try.ntmps49, List.size_toArray, List.length_cons, List.length_nil, Nat.reduceAdd, Nat.reduceSub, Array.replicate_succ, Array.replicate_zero, List.push_toArray, List.append_toArray, List.nil_append, List.cons_append]
  gi_wp2
  clear c0 hBcW
  refine wpIn_loop (fun a wr => ∃ (k : Nat) (Ds : List Nat) (s4 s5 s10 s11 s12 s13 s14 s15 s16 s17 s18 s19 s20 s21 : Value), k ≤ fs.length ∧ a = { tmps := #[.func (.yield l) #[] #[], .pointer (some ⟨Bc, 0, none⟩), .pointer (some ⟨W.heap.size, 0, none⟩), undef, s4, s5, .pointer (some ⟨Bc, 0, none⟩), .slice fa fs.length fs.length, .int .i64 fs.length, .int .i64 k, s10, s11, s12, s13, s14, s15, s16, s17, s18, s19, s20, s21], defers := Ds.map mark } ∧ Ds.Nodup ∧ Hid (Cg W.heap.size Bc W.heap.size l fa fb prec fs Ds wr) ∧ Hid (J (fileParts (fs.take k)) wr)) (fun a _ => fs.length - (intOf (a.tmps.getD 9 undef)).toNat)
    ⟨0, [], undef, undef, undef, undef, undef, undef, undef, undef, undef, undef, undef, undef, undef, undef, Nat.zero_le _, rfl, List.nodup_nil, HCG, HJW⟩ ?_
  clear HCG HJW
  rintro a wr ⟨k, Ds, s4, s5, s10, s11, s12, s13, s14, s15, s16, s17, s18, s19, s20, s21, hk, rfl, hnd, HC, HJk⟩
  by_cases hlt : k < fs.length
  · obtain ⟨f, hf⟩ : ∃ f, fs[k]? = some f := ⟨_, List.getElem?_eq_getElem hlt⟩
    have hfm : f ∈ fs := List.mem_of_getElem? hf
    obtain ⟨rfl, cf⟩ := HC.out.fl.cell hf
    have HFO := hide (HOK.out f hfm)
    have HF := hide hf
    have HFM := hide hfm
    clear hf hfm
    obtain ⟨m, b, ao, ls⟩ := f
    simp only at cf
    have hn1 : 1 ≤ n := by omega
    gi_wp2_with (refine ⟨trivial, ?_⟩; gi_at_call 50; refine (callsIn_wide.2 (parts_make _ _)).mono ?_; rintro e w' ⟨rfl, rfl⟩)
    obtain ⟨W0, hW0⟩ : ∃ W0, (wr.alloc (.cells #[.pointer (some ⟨m, 0, none⟩)] 27)).alloc (.cells #[.pointer (some ⟨m, 0, none⟩)] 27) = W0 := ⟨_, rfl⟩
    have hsz0 : W0.heap.size = wr.heap.size + 2 := by rw [← hW0]; simp
    have hv0 : W0.heap[wr.heap.size]? = some (.cells #[.pointer (some ⟨m, 0, none⟩)] 27 (0, 0)) := by
      rw [← hW0, Below.heap_alloc _ _ _ (by simp)]; exact heap_alloc_new _ _
    have hp0 : W0.heap[wr.heap.size + 1]? = some (.cells #[.pointer (some ⟨m, 0, none⟩)] 27 (0, 0)) := by
      rw [← hW0]; have := heap_alloc_new (wr.alloc (.cells #[.pointer (some ⟨m, 0, none⟩)] 27)) (.cells #[.pointer (some ⟨m, 0, none⟩)] 27); rwa [World.size_alloc] at this
    have HC0 : Hid (Cg W.heap.size Bc W.heap.size l (some ⟨fb, 0, none⟩) fb prec fs Ds W0) := by rw [← hW0]; exact (HC.out.alloc _).alloc _
    have HJ0 : Hid (J (fileParts (fs.take k)) W0) := by rw [← hW0]; exact HJ.out.alloc _ _ _ (HJ.out.alloc _ _ _ HJk.out)
    rw [hW0]
    clear hW0 HC HJk cf
    have hDlt : ∀ D ∈ Ds, D < W0.heap.size := fun D hD => lt_of_some (HC0.out.ds D hD).2
    have hNW : W.heap.size ≤ W0.heap.size := HC0.out.sz
    have HFA := hide (HC0.out.fl.each _ HFM.out)
    have HO := HFO.out
    have hG := parts_gives (n - 1) (by omega) m b ls.length ls.length (wr.heap.size + 1) ao false ls W0 HFA.out.2 HFA.out.1 hp0 HO.len (by rw [List.take_length]; exact HO.sound) (by rw [List.take_length]; exact fun i hi => Nat.le_trans (HO.txt i hi) (by unfold maxLen; omega))
    rw [List.take_length] at hG
    refine rangeFunc_gives (n := n) (F := Fence.wide) rfl hn1 (gf := 59) (lb := #[.pointer (some ⟨wr.heap.size + 1, 0, none⟩)]) rfl trivial (enters_of Try.func59 (by kernel_rfl) rfl) (encs := encP) (own := ownT) (Kp := Kp) (xs := allParts ls) (w0 := W0) hG
      (fun h k => h.trans k) (fun W l o o' h ho => Kp.putObj W l o o' h ho) (Below.refl _ _) (fun _ => rfl)
      (fun pre W' => Cg W.heap.size Bc W.heap.size l (some ⟨fb, 0, none⟩) fb prec fs Ds W' ∧ W'.heap[wr.heap.size]? = some (.cells #[.pointer (some ⟨m, 0, none⟩)] 27 (0, 0)) ∧ J (fileParts (fs.take k) ++ pre.map (fun p => (⟨m, b, ao, ls⟩, p))) W') ?bears ⟨HC0.out, hv0, by simpa using HJ0.out⟩
      (AxC l Bc W.heap.size wr.heap.size (some ⟨fb, 0, none⟩) fs.length k (.pointer (some ⟨fb, k, none⟩)) (.pointer (some ⟨m, 0, none⟩)) (.pointer (some ⟨m, 0, none⟩)) (.func (.func 59) #[] #[.pointer (some ⟨wr.heap.size + 1, 0, none⟩)]) s16 s17 s18 s19 s20 s21) ?ax ?assign ?body ?done
    case bears =>
      refine ⟨fun s W' o h => ⟨h.1.alloc o, (Below.heap_alloc _ _ _ (lt_of_some h.2.1)).trans h.2.1, HJ.out.alloc _ _ _ h.2.2⟩, fun s W' h => ⟨h.1.drew, h.2.1, HJ.out.drew _ _ h.2.2⟩, fun s W' r c t fr j v h hr hc ht => ?_, fun s W' r o o' h hr hc ho => ?_⟩
      · obtain rfl : t = 94 := ht
        exact ⟨h.1.cell hc v, (Below.heap_setCell _ _ _ _ (fun e => by subst e; rw [hc] at h; cases h.2.1)).trans h.2.1, HJ.out.cell _ _ _ _ _ _ _ _ h.2.2 (by omega) hc rfl⟩
      · exact ⟨h.1.put hc ho (fun D hD => by have := hDlt D hD; omega) o', (Kp.putObj _ _ _ o' hc ho).same _ _ _ _ h.2.1 (by unfold envT; simp), HJ.out.put _ _ _ _ _ h.2.2 (by omega) hc ho⟩
    case ax =>
      rintro x a' W' r o o' ⟨Bx, h1, h2⟩ hl hc ho
      exact ⟨Bx, (Kp.putObj _ _ _ o' hc ho).same _ _ _ _ h1 (by unfold envT; simp), h2⟩
    case assign =>
      rintro l' pre x W1 K ⟨h1, h2, h3⟩ hpx hK
      dsimp only [encP]
      gi_wp2
      exact hK _ _ (keepsFrom_alloc _ _ _) ((Kp.refl _).alloc _) ⟨h1.alloc _, (Below.heap_alloc _ _ _ (lt_of_some h2)).trans h2, HJ.out.alloc _ _ _ h3⟩ ⟨W1.heap.size, heap_alloc_new _ _, rfl⟩
    case body =>
      rintro l' pre x a' W1 hl' - ⟨h1, h2, h3⟩ ⟨Bx, hbx, rfl⟩ hpx
      have cy : W1.cell? ⟨W.heap.size, 0, none⟩ = some (.func (.yield l) #[] #[]) := by rw [cell_of_row W1 _ 0 _ _ _ h1.cy]; rfl
      have c4 : W1.cell? ⟨wr.heap.size, 0, none⟩ = some (.pointer (some ⟨m, 0, none⟩)) := by rw [cell_of_row W1 _ 0 _ _ _ h2]; rfl
      have x0 : W1.cell? ⟨Bx, 0, none⟩ = some (.string x.nm) := by rw [cell_of_row W1 _ 0 _ _ _ hbx]; rfl
      have x1 : W1.cell? ⟨Bx, 1, none⟩ = some (.int .i64 x.h) := by rw [cell_of_row W1 _ 1 _ _ _ hbx]; rfl
      have x2 : W1.cell? ⟨Bx, 2, none⟩ = some (.int .i64 x.e) := by rw [cell_of_row W1 _ 2 _ _ _ hbx]; rfl
      obtain ⟨fn, tmps, assign, body, hy, hR⟩ := HY.out _ (⟨m, b, ao, ls⟩, x) W1 h3 (by
        have := fileParts_pre fs k ⟨m, b, ao, ls⟩ HF.out (pre ++ [x]) hpx
        rwa [List.map_append, ← List.append_assoc] at this)
      dsimp only [encFP] at hy
      have HR := hide hR
      have H1 := hide h1
      have H2 := hide h2
      clear hR h1 h2 h3 hbx
      have hn2 : 1 ≤ n - 1 - 1 := by omega
      gi_wp2
      refine (round_any HR.out).mono ?_
      rintro e W3 ⟨rfl, hJ3, hk3, hf3⟩
      have HJ3 := hide hJ3
      have HK3 := hide hk3
      have HF3 := hide hf3
      clear hJ3 hk3 hf3 cy c4 x0 x1 x2 hy
      gi_wp2
      refine ⟨keepsFrom_mono HF3.out hNW, HK3.out, H1.out.kp HK3.out HF3.out, HK3.out.same _ _ _ _ H2.out (by unfold envT; simp), ?_⟩
      have := HJ3.out; rwa [List.append_assoc, ← List.map_singleton, ← List.map_append] at this
    case done =>
      rintro D W1 hD ⟨h1, h2, h3⟩ hK
      have HD := hide hD
      have H1 := hide h1
      have H3 := hide h3
      have HK := hide hK
      clear hD h1 h2 h3 hK
      gi_wp2
      refine ⟨⟨k + 1, D :: Ds, _, _, _, _, _, _, _, _, _, _, _, _, _, _, hlt, rfl, List.nodup_cons.2 ⟨fun h => ?_, hnd⟩, ?_, ?_⟩, ?_⟩
      · have h1 := hDlt D h; have h2 := HD.out; omega
      · refine ⟨H1.out.sz, H1.out.cf, H1.out.cy, H1.out.fl, fun D' hD' => ?_⟩
        rcases List.mem_cons.1 hD' with rfl | h
        · exact ⟨Nat.le_trans hNW HD.out, HK.out⟩
        · exact H1.out.ds D' h
      · have h1 : fs.take (k + 1) = fs.take k ++ [⟨m, b, ao, ls⟩] := by rw [List.take_add_one, HF.out]; rfl
        rw [Hid, h1, fileParts_snoc]; exact H3.out
      · simp [intOf]; omega
  · obtain rfl : k = fs.length := by omega
    gi_wp2
    refine leaves_marks (J := fun W' => J (fileParts fs) W') (N0 := W.heap.size) rfl (fun W' l o o' h1 h2 h3 h4 => HJ.out.put _ _ _ _ _ h1 h2 h3 h4) (fun W' v h => ⟨⟨v, rfl⟩, h⟩) Ds wr hnd HC.out.ds ?_
    have := HJk.out; rwa [List.take_length] at this
end Go.Proofs.Qxb6603539a.Ds

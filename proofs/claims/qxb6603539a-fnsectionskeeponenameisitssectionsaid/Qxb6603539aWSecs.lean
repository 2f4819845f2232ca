import Derived.Test.Qxb6603539aWSec
import Derived.Test.Qxb6603539aAny
import Derived.Test.Qxb6603539aStK
import Derived.Test.Qxb6603539aFold
import Derived.Test.Qxb6603539aParts
import Derived.Test.Qxb6603539aRangeT
import Derived.Laws.EntriesVeiled
import Derived.Maps.AppendAt
namespace Go.Proofs.Qxb6603539a.Ds
open Go.RowKit
attribute [local go_sem] Oper.semAt_some
set_option linter.unusedSimpArgs false

def KeyC (keyT : ByteArray → ByteArray) : Prop := (∀ t, (keyT t).size ≤ t.size) ∧ ∀ (t : ByteArray) (e : Int) (W : World), t.size ≤ 1048576 → Calls Try.prog 40 #[.agg #[.string t, .int .u8 3, .int .u8 e]] W fun r W' => r = .returned (.string (keyT t)) ∧ Below W.heap.size W W'
def EvC (EV : List Ln → Nat → ByteArray) : Prop := ∀ (f : Fl) (i : Nat) (W : World), FileAt W f → FOk f → i < f.ls.length → (at' f.ls i).k = 3 → Calls Try.prog 34 #[.pointer (some ⟨f.m, 0, none⟩), .int .i64 i] W fun r W' => r = .returned (.string (EV f.ls i)) ∧ Below W.heap.size W W'

theorem results_tmp1 {fn : Func} {t : Tmp} (h : fn.results = #[.tmp t]) (tmps : Array Value) (P : Program) (w : World) : (results fn tmps).run P w = .ok (tmps.getD t undef) w := by
  simp [results, h]

theorem Chg.put {E : Vars} {A W : World} {l : Nat} (h : Chg E A W) (hl : A.heap.size ≤ l) (o' : Obj) : Chg E A (W.putObj l o') :=
  ⟨Nat.le_trans h.size (by simp [World.putObj]), fun k c t fr hk ht => (World.putObj_heap_other (by have := lt_of_some hk; omega)).trans (h.cells k c t fr hk ht), fun k ob hk hb h1 h2 => (World.putObj_heap_other (by have := lt_of_some hk; omega)).trans (h.objs k ob hk hb h1 h2)⟩

/-- The frame of an outer round. -/
def AxO (tm : Array Value) (x : Fl × Part) (a' : Act) (W : World) : Prop :=
  ∃ Bv Bx, W.heap[Bv]? = some (.cells #[.pointer (some ⟨x.1.m, 0, none⟩)] 27 (0, 0)) ∧ W.heap[Bx]? = some (.cells #[.string x.2.nm, .int .i64 x.2.h, .int .i64 x.2.e] 94 (0, 0)) ∧
    a' = { tmps := (((tm.setIfInBounds 21 (.pointer (some ⟨x.1.m, 0, none⟩))).setIfInBounds 22 (.agg #[.string x.2.nm, .int .i64 x.2.h, .int .i64 x.2.e])).setIfInBounds 9 (.pointer (some ⟨Bv, 0, none⟩))).setIfInBounds 10 (.pointer (some ⟨Bx, 0, none⟩)), defers := [] }
/-- The frame of an inner round. -/
def AxI (tm : Array Value) (i : Nat) (a' : Act) (_ : World) : Prop := a' = { tmps := (tm.setIfInBounds 38 (.int .i64 i)).setIfInBounds 11 (.int .i64 i), defers := [] }

def KeepsK (kp : ByteArray → Bool) (w : World) (kn : Nat) (lb : Array Value) : Prop :=
  (kn = 30 ∧ lb = #[] ∧ kp = fun _ => true) ∨ (∃ bn nm, kn = 35 ∧ lb = #[.pointer (some ⟨bn, 0, none⟩)] ∧ w.heap[bn]? = some (.cells #[.string nm] 9 (0, 0)) ∧ kp = fun x => x.toList == nm.toList)
theorem keeps_enters {kp : ByteArray → Bool} {w : World} {kn : Nat} {lb : Array Value} (h : KeepsK kp w kn lb) : ∀ args w, (callFunc kn args).run Try.prog w = .ok (.enter kn args) w := by
  rcases h with ⟨rfl, _⟩ | ⟨_, _, rfl, _⟩
  · exact enters_of Try.func30 (by kernel_rfl) rfl
  · exact enters_of Try.func35 (by kernel_rfl) rfl
theorem keeps_any {kp : ByteArray → Bool} {w : World} {kn : Nat} {lb : Array Value} (h : KeepsK kp w kn lb) {W : World} {x : ByteArray} (hb : Below w.heap.size w W) : Calls Try.prog kn (#[.string x] ++ lb) W fun e w' => e = .returned (.bool (kp x)) ∧ w' = W := by
  rcases h with ⟨rfl, rfl, rfl⟩ | ⟨bn, nm, rfl, rfl, hn, rfl⟩
  · go_enter Try.func30, Try.ntmps30
    go_wp2
    go_ret
    exact ⟨rfl, rfl⟩
  · have c : W.cell? ⟨bn, 0, none⟩ = some (.string nm) := by rw [cell_of_row W _ 0 _ _ _ ((hb.block _ (lt_of_some hn)).trans hn)]; rfl
    clear hn hb
    show Calls Try.prog 35 #[.string x, .pointer (some ⟨bn, 0, none⟩)] W _
    go_enter Try.func35, Try.ntmps35
    go_wp2
    go_ret
    exact ⟨rfl, rfl⟩
theorem Try.info9 : (Try.prog.info? 9).map (fun i => (i.zero, i.size, i.bytes)) = some (some (.string ⟨#[]⟩), 1, 16) := by kernel_rfl
theorem Try.info78 : (Try.prog.info? 78).map (fun i => (i.zero, i.size, i.bytes)) = some (some (.agg #[.string ⟨#[]⟩, .slice none 0 0]), 2, 40) := by kernel_rfl

/-- The variable 'sections' holds a row that lies in block g. -/
def VG (E : Vars) (g : Nat) (S : List Sc) (X : World) : Prop := ∃ v, X.heap[E.Bs]? = some (.cells #[v] 52 (0, 0)) ∧ v.ownBlock = some g ∧ Rep 72 78 E.base X v S
theorem VG.stay {E : Vars} {g : Nat} {S : List Sc} {X Y : World} (h : VG E g S X) (hs : Stay freeT X Y) : VG E g S Y := by
  obtain ⟨v, h1, h2, h3⟩ := h
  exact ⟨v, hs.same _ _ _ _ h1 (by simp [freeT]), h2, h3.stay (hs.mono (fun t ht => by unfold freeT; rcases ht with rfl | rfl | rfl <;> simp))⟩
theorem Chg.setNew {E : Vars} {A X : World} {G j : Nat} (h : Chg E A X) (hG : A.heap.size ≤ G) (u : Value) : Chg E A (X.setCell ⟨G, j, none⟩ u) :=
  ⟨Nat.le_trans h.size (by simp [World.setCell]), fun k c t fr hk ht => (Below.heap_setCell _ _ _ _ (by have := lt_of_some hk; show k ≠ G; omega)).trans (h.cells k c t fr hk ht), fun k ob hk hb h1 h2 => (Below.heap_setCell _ _ _ _ (by have := lt_of_some hk; show k ≠ G; omega)).trans (h.objs k ob hk hb h1 h2)⟩
theorem Chg.undrew {E : Vars} {A X : World} (h : Chg E A.drew X) : Chg E A X := ⟨h.size, h.cells, h.objs⟩
theorem St.set99 {E : Vars} {Q G j : Nat} {S : List Sc} {X : World} {c : Array Value} {fr : Nat × Nat} (h : St E Q S X) (hb : X.heap[G]? = some (.cells c 99 fr)) (hw : E.w0.heap.size ≤ G) (u : Value) : St E Q S (X.setCell ⟨G, j, none⟩ u) :=
  h.stay (Stay.cell u hb (by simp [freeT])) (Below.heap_setCell _ _ _ _ (fun e => by
    obtain ⟨L, hm, _⟩ := h.m1; obtain ⟨es, c', ho⟩ := hm.obj; have e' : E.M1 = G := e; rw [e', hb] at ho; cases ho)) (Below.heap_setCell _ _ _ _ (fun e => by
    obtain ⟨L, hm, _⟩ := h.m2; obtain ⟨es, c', ho⟩ := hm.obj; have e' : E.M2 = G := e; rw [e', hb] at ho; cases ho)) (h.bl.setCell (p := ⟨G, j, none⟩) hw u)
theorem put99 {E : Vars} {Q g G : Nat} {S : List Sc} {A X : World} {a b : Value} (hst : St E Q S X) (hv : VG E g S X) (hch : Chg E A X) (hG : A.heap.size ≤ G) (hA : E.w0.heap.size ≤ A.heap.size) (hb : X.heap[G]? = some (.cells #[a, b] 99 (0, 0))) (u u' : Value) :
    St E Q S ((X.setCell ⟨G, 0, none⟩ u).setCell ⟨G, 1, none⟩ u') ∧ VG E g S ((X.setCell ⟨G, 0, none⟩ u).setCell ⟨G, 1, none⟩ u') ∧ Chg E A ((X.setCell ⟨G, 0, none⟩ u).setCell ⟨G, 1, none⟩ u') ∧ ((X.setCell ⟨G, 0, none⟩ u).setCell ⟨G, 1, none⟩ u').heap[G]? = some (.cells #[u, u'] 99 (0, 0)) := by
  have hb1 : (X.setCell ⟨G, 0, none⟩ u).heap[G]? = some (.cells #[u, b] 99 (0, 0)) := by simpa using heap_setCell_same X G 0 _ _ u hb
  have hb2 : ((X.setCell ⟨G, 0, none⟩ u).setCell ⟨G, 1, none⟩ u').heap[G]? = some (.cells #[u, u'] 99 (0, 0)) := by simpa using heap_setCell_same _ G 1 _ _ u' hb1
  exact ⟨(hst.set99 hb (by omega) u).set99 hb1 (by omega) u', (hv.stay (Stay.cell u hb (by simp [freeT]))).stay (Stay.cell u' hb1 (by simp [freeT])), (hch.setNew hG u).setNew hG u', hb2⟩

/-- What the loads of region 13 read. -/
structure S13 (B1 Bs Bf Bx Bv : Nat) (nm : ByteArray) (ph pe : Int) (f : Fl) (w : World) : Prop where
  fn : w.heap[Bf]? = some (.cells #[.func (.func 37) #[] #[.pointer (some ⟨B1, 0, none⟩), .pointer (some ⟨Bs, 0, none⟩)]] 89 (0, 0))
  px : w.heap[Bx]? = some (.cells #[.string nm, .int .i64 ph, .int .i64 pe] 94 (0, 0))
  pv : w.heap[Bv]? = some (.cells #[.pointer (some ⟨f.m, 0, none⟩)] 27 (0, 0))
  fl : FileAt w f
section
variable {B1 Bs Bf Bx Bv : Nat} {nm : ByteArray} {ph pe : Int} {f : Fl} {w w' : World} {E : Vars}
theorem S13.chg (h : S13 B1 Bs Bf Bx Bv nm ph pe f w) (hc : Chg E w w') : S13 B1 Bs Bf Bx Bv nm ph pe f w' :=
  ⟨hc.cells _ _ _ _ h.fn (by simp [freeT]), hc.cells _ _ _ _ h.px (by simp [freeT]), hc.cells _ _ _ _ h.pv (by simp [freeT]), h.fl.kp hc.kp⟩
theorem S13.drew (h : S13 B1 Bs Bf Bx Bv nm ph pe f w) : S13 B1 Bs Bf Bx Bv nm ph pe f w.drew := ⟨h.fn, h.px, h.pv, h.fl.kp (Kp.refl _).drew⟩
theorem S13.alloc (h : S13 B1 Bs Bf Bx Bv nm ph pe f w) (o : Obj) : S13 B1 Bs Bf Bx Bv nm ph pe f (w.alloc o) :=
  ⟨(Below.heap_alloc _ _ _ (lt_of_some h.fn)).trans h.fn, (Below.heap_alloc _ _ _ (lt_of_some h.px)).trans h.px, (Below.heap_alloc _ _ _ (lt_of_some h.pv)).trans h.pv, h.fl.kp ((Kp.refl _).alloc o)⟩
theorem S13.below (h : S13 B1 Bs Bf Bx Bv nm ph pe f w) (hb : Below w.heap.size w w') : S13 B1 Bs Bf Bx Bv nm ph pe f w' :=
  ⟨(hb.block _ (lt_of_some h.fn)).trans h.fn, (hb.block _ (lt_of_some h.px)).trans h.px, (hb.block _ (lt_of_some h.pv)).trans h.pv, h.fl.below hb⟩
theorem S13.cells {m b : Nat} {ls : List Ln} (h : S13 B1 Bs Bf Bx Bv nm ph pe ⟨m, b, some ⟨b, 0, none⟩, ls⟩ w) {i : Nat} (hi : i < ls.length) {tx : ByteArray} {en : Int} (hl : at' ls i = ⟨tx, 3, en⟩) :
    w.cell? ⟨Bf, 0, none⟩ = some (.func (.func 37) #[] #[.pointer (some ⟨B1, 0, none⟩), .pointer (some ⟨Bs, 0, none⟩)]) ∧ w.cell? ⟨Bx, 0, none⟩ = some (.string nm) ∧ w.cell? ⟨Bv, 0, none⟩ = some (.pointer (some ⟨m, 0, none⟩)) ∧
    w.cell? ⟨m, 1, none⟩ = some (.slice (some ⟨b, 0, none⟩) ls.length ls.length) ∧ w.cell? ⟨b, i * 3, none⟩ = some (.string tx) ∧ w.cell? ⟨b, i * 3 + 1, none⟩ = some (.int .u8 3) ∧ w.cell? ⟨b, i * 3 + 2, none⟩ = some (.int .u8 en) := by
  have hL := h.fl.lies
  refine ⟨by rw [cell_of_row w _ 0 _ _ _ h.fn]; rfl, by rw [cell_of_row w _ 0 _ _ _ h.px]; rfl, by rw [cell_of_row w _ 0 _ _ _ h.pv]; rfl, by rw [cell_of_row w _ 1 _ _ _ h.fl.1]; rfl, ?_, ?_, ?_⟩
  · have := hL.c0 i hi; simp only at this; rw [this, hl]
  · have := hL.c1 i hi; simp only at this; rw [this, hl]
  · have := hL.c2 i hi; simp only at this; rw [this, hl]
end
theorem frame_seq {F : Fence} {n : Nat} {P : Program} {c : Code} {K : Act → World → Prop} {Q : Exit → Act → World → Prop} {tm : Array Value} {ds : List Deferred} {W : World} (h : ∀ tm', tm' = tm → ∀ KK, KK = K → c.wpIn F n P (Exit.then KK Q) ⟨tm', ds⟩ W) : c.wpIn F n P (Exit.then K Q) ⟨tm, ds⟩ W := h tm rfl K rfl

/-- What lies there when the range begins. -/
structure Init (w : World) (fa : Option Addr) (fs : List Fl) (prec : Int) (kn : Nat) (lb : Array Value) (Bk Bs M1 B1 M2 B2 Bf Bq base : Nat) (W : World) : Prop where
  sz : W.heap.size = base
  lo : w.heap.size ≤ base
  bl : Below w.heap.size w W
  cfg : W.heap[Bq]? = some (.cells #[.slice fa fs.length fs.length, .int .i64 prec] 51 (0, 0))
  st : St ⟨w, Bs, B1, B2, Bf, Bk, M1, M2, base, .func (.func kn) #[] lb⟩ 0 [] W
theorem init_any (w : World) (fa : Option Addr) (fs : List Fl) (prec : Int) (kn : Nat) (lb : Array Value) :
    Init w fa fs prec kn lb (w.heap.size + 1) (w.heap.size + 1 + 1) (w.heap.size + 1 + 1 + 1) (w.heap.size + 1 + 1 + 1 + 1) (w.heap.size + 1 + 1 + 1 + 1 + 1) (w.heap.size + 1 + 1 + 1 + 1 + 1 + 1) (w.heap.size + 1 + 1 + 1 + 1 + 1 + 1 + 1) (w.heap.size + 1 + 1 + 1 + 1 + 1 + 1 + 1 + 1) (w.heap.size + 9) (((((((((w.alloc (.cells #[.slice fa fs.length fs.length, .int .i64 prec] 51)).alloc (.cells #[.func (.func kn) #[] lb] 69)).alloc (.cells #[.slice none 0 0] 52)).alloc (.map #[] 0)).alloc (.cells #[.map (some (w.heap.size + 1 + 1 + 1))] 85)).alloc (.map #[] 0)).alloc (.cells #[.map (some (w.heap.size + 1 + 1 + 1 + 1 + 1))] 86)).alloc (.cells #[.func (.func 37) #[] #[.pointer (some ⟨w.heap.size + 1 + 1 + 1 + 1, 0, none⟩), .pointer (some ⟨w.heap.size + 1 + 1, 0, none⟩)]] 89)).alloc (.cells #[.slice fa fs.length fs.length, .int .i64 prec] 51)) := by
  have nw : ∀ (W : World) (o : Obj) (k : Nat), k = W.heap.size → (W.alloc o).heap[k]? = some o := fun W o k hk => by rw [hk]; exact heap_alloc_new _ _
  have up : ∀ (W : World) (o ob : Obj) (k : Nat), W.heap[k]? = some ob → (W.alloc o).heap[k]? = some ob := fun W o ob k hk => (Below.heap_alloc _ _ _ (lt_of_some hk)).trans hk
  have hbl : Below w.heap.size w (((((((((w.alloc (.cells #[.slice fa fs.length fs.length, .int .i64 prec] 51)).alloc (.cells #[.func (.func kn) #[] lb] 69)).alloc (.cells #[.slice none 0 0] 52)).alloc (.map #[] 0)).alloc (.cells #[.map (some (w.heap.size + 1 + 1 + 1))] 85)).alloc (.map #[] 0)).alloc (.cells #[.map (some (w.heap.size + 1 + 1 + 1 + 1 + 1))] 86)).alloc (.cells #[.func (.func 37) #[] #[.pointer (some ⟨w.heap.size + 1 + 1 + 1 + 1, 0, none⟩), .pointer (some ⟨w.heap.size + 1 + 1, 0, none⟩)]] 89)).alloc (.cells #[.slice fa fs.length fs.length, .int .i64 prec] 51)) :=
    (((((((((Below.refl _ w).alloc (by simp) _).alloc (by simp; try omega) _).alloc (by simp; try omega) _).alloc (by simp; try omega) _).alloc (by simp; try omega) _).alloc (by simp; try omega) _).alloc (by simp; try omega) _).alloc (by simp; try omega) _).alloc (by simp; try omega) _
  refine ⟨by simp, by omega, hbl, nw _ _ _ (by simp), ⟨⟨.slice none 0 0, ?_, Rep.nil _ _ _ _⟩, ?_, ?_, ?_, ?_, ⟨[], ⟨#[], 0, ?_, rfl, by simp⟩, by simp⟩, ⟨[], ⟨#[], 0, ?_, rfl, by simp⟩, by simp⟩, ⟨by simp, by simp, by simp, by simp, by simp⟩, hbl, by simp only; omega, by simp only; omega, by simp only; omega, by simp only; omega, by simp only; omega, by simp⟩⟩
  · exact up _ _ _ _ (up _ _ _ _ (up _ _ _ _ (up _ _ _ _ (up _ _ _ _ (up _ _ _ _ (nw _ _ _ (by simp)))))))
  · exact up _ _ _ _ (up _ _ _ _ (up _ _ _ _ (up _ _ _ _ (nw _ _ _ (by simp)))))
  · exact up _ _ _ _ (up _ _ _ _ (nw _ _ _ (by simp)))
  · exact up _ _ _ _ (nw _ _ _ (by simp))
  · exact up _ _ _ _ (up _ _ _ _ (up _ _ _ _ (up _ _ _ _ (up _ _ _ _ (up _ _ _ _ (up _ _ _ _ (nw _ _ _ (by simp))))))))
  · exact up _ _ _ _ (up _ _ _ _ (up _ _ _ _ (up _ _ _ _ (up _ _ _ _ (nw _ _ _ (by simp))))))
  · exact up _ _ _ _ (up _ _ _ _ (up _ _ _ _ (nw _ _ _ (by simp))))

set_option maxHeartbeats 4000000 in
set_option maxRecDepth 100000 in
theorem sections_any (kp : ByteArray → Bool) (keyT : ByteArray → ByteArray) (EV : List Ln → Nat → ByteArray) (hkey : KeyC keyT) (hev : EvC EV) (fb : Nat) (fa : Option Addr) (prec : Int) (fs : List Fl) (kn : Nat) (lb : Array Value) (w : World)
    (hfs : FilesAt w fa fb fs) (hok : ∀ f ∈ fs, FOk f) (hnf : fs.length ≤ 1048576) (hpl : (fileParts fs).length ≤ 700000) (hkp : KeepsK kp w kn lb) :
    Calls Try.prog 29 #[.agg #[.slice fa fs.length fs.length, .int .i64 prec], .func (.func kn) #[] lb] w fun e w' => ∃ v base, e = .returned v ∧ w.heap.size ≤ base ∧ Rep 72 78 base w' v (foldP kp keyT EV [] (fileParts fs)) ∧ WF 2936012800000 (foldP kp keyT EV [] (fileParts fs)) ∧ Below w.heap.size w w' := by
  have HFS := hide hfs
  have HOK := hide hok
  have HKP := hide hkp
  have HKEY := hide hkey
  have HEV := hide hev
  clear hfs hok hkp hkey hev
  refine (callsIn_wide (n := 8)).1 (callsIn_of_wp_marks Try.func29 rfl trivial (wpIn_wide.2 ?_) rfl)
  simp only [Try.ntmps29, List.size_toArray, List.length_cons, List.length_nil, Nat.reduceAdd, Nat.reduceSub, Array.replicate_succ, Array.replicate_zero, List.push_toArray, List.append_toArray, List.nil_append, List.cons_append]
  have hmm := @run_makeMap Try.prog
  go_wp2_with (go_at_call 38; refine (cparts_make _ _ _ ⟨_, _, _, rfl⟩ ⟨_, rfl⟩).mono ?_; rintro e w' ⟨rfl, rfl⟩)
  clear hmm
  obtain ⟨W0, hW0⟩ : ∃ W0, ((((((((w.alloc (.cells #[.slice fa fs.length fs.length, .int .i64 prec] 51)).alloc (.cells #[.func (.func kn) #[] lb] 69)).alloc (.cells #[.slice none 0 0] 52)).alloc (.map #[] 0)).alloc (.cells #[.map (some (w.heap.size + 1 + 1 + 1))] 85)).alloc (.map #[] 0)).alloc (.cells #[.map (some (w.heap.size + 1 + 1 + 1 + 1 + 1))] 86)).alloc (.cells #[.func (.func 37) #[] #[.pointer (some ⟨w.heap.size + 1 + 1 + 1 + 1, 0, none⟩), .pointer (some ⟨w.heap.size + 1 + 1, 0, none⟩)]] 89)).alloc (.cells #[.slice fa fs.length fs.length, .int .i64 prec] 51) = W0 := ⟨_, rfl⟩
  have HI0 : Hid (Init w fa fs prec kn lb (w.heap.size + 1) (w.heap.size + 1 + 1) (w.heap.size + 1 + 1 + 1) (w.heap.size + 1 + 1 + 1 + 1) (w.heap.size + 1 + 1 + 1 + 1 + 1) (w.heap.size + 1 + 1 + 1 + 1 + 1 + 1) (w.heap.size + 1 + 1 + 1 + 1 + 1 + 1 + 1) (w.heap.size + 1 + 1 + 1 + 1 + 1 + 1 + 1 + 1) (w.heap.size + 9) W0) := by rw [← hW0]; exact init_any w fa fs prec kn lb
  rw [hW0]
  clear hW0
  generalize hX8 : w.heap.size + 1 + 1 + 1 + 1 + 1 + 1 + 1 + 1 = Bq at HI0 ⊢
  have HX8 := hide hX8
  clear hX8
  generalize hX7 : w.heap.size + 1 + 1 + 1 + 1 + 1 + 1 + 1 = Bf at HI0 ⊢
  have HX7 := hide hX7
  clear hX7
  generalize hX6 : w.heap.size + 1 + 1 + 1 + 1 + 1 + 1 = B2 at HI0 ⊢
  have HX6 := hide hX6
  clear hX6
  generalize hX5 : w.heap.size + 1 + 1 + 1 + 1 + 1 = M2 at HI0 ⊢
  have HX5 := hide hX5
  clear hX5
  generalize hX4 : w.heap.size + 1 + 1 + 1 + 1 = B1 at HI0 ⊢
  have HX4 := hide hX4
  clear hX4
  generalize hX3 : w.heap.size + 1 + 1 + 1 = M1 at HI0 ⊢
  have HX3 := hide hX3
  clear hX3
  generalize hX2 : w.heap.size + 1 + 1 = Bs at HI0 ⊢
  have HX2 := hide hX2
  clear hX2
  generalize hX1 : w.heap.size + 1 = Bk at HI0 ⊢
  have HX1 := hide hX1
  clear hX1
  generalize hX9 : w.heap.size + 9 = base at HI0
  have HX9 := hide hX9
  clear hX9
  generalize hX0 : w.heap.size = Bc
  have HX0 := hide hX0
  clear hX0
  have hE := HI0.out
  have hG := cfg_gives 7 (by omega) Bq fb fa prec fs W0 hE.cfg (HFS.out.kp (Kp.of_below hE.bl)) HOK.out hnf
  have hsz : W0.heap.size = base := hE.sz
  have HW : Hid (w.heap.size ≤ base) := hE.lo
  obtain ⟨E, hEd⟩ : ∃ E : Vars, E = ⟨w, Bs, B1, B2, Bf, Bk, M1, M2, base, .func (.func kn) #[] lb⟩ := ⟨_, rfl⟩
  have hst : St E 0 [] W0 := by rw [hEd]; exact hE.st
  have HEd := hide hEd
  have hM1 : E.M1 < W0.heap.size := hst.lt1
  have hM2 : E.M2 < W0.heap.size := hst.lt2
  have hW0 : E.w0 = w := by rw [hEd]
  clear hEd
  refine wpIn_wide.1 (rangeFunc_givesT (n := 8) (F := Fence.wide) AxO rfl (by omega) (gf := 49) (lb := #[.pointer (some ⟨Bq, 0, none⟩)]) rfl trivial (enters_of Try.func49 (by kernel_rfl) rfl) (encs := encFP) (own := ownT) (Kp := Kp) (xs := fileParts fs) (w0 := W0) hG
    (fun h k => h.trans k) (fun W l o o' h ho => Kp.putObj W l o o' h ho) (Below.refl _ _) (fun _ => rfl)
    (fun pre W => St E (pre.length * 4194304) (foldP kp keyT EV [] pre) W) ?bears (by simpa [foldP] using hst) ?ax ?assign ?body ?done)
  case bears =>
    refine ⟨fun s W o h => h.alloc o, fun s W h => h.drew, fun s W r c t fr j v h hr hc ht => ?_, fun s W r o o' h hr hc ho => h.put hc ho (by omega) (by omega) o'⟩
    obtain rfl : t = 94 := ht
    exact h.cell hc (by rw [hW0]; have := HW.out; omega) v
  case ax =>
    rintro tm x a' W r o o' ⟨Bv, Bx, h1, h2, h3⟩ hl hc ho
    exact ⟨Bv, Bx, (Kp.putObj _ _ _ o' hc ho).same _ _ _ _ h1 (by unfold envT; simp), (Kp.putObj _ _ _ o' hc ho).same _ _ _ _ h2 (by unfold envT; simp), h3⟩
  case assign =>
    rintro l pre x W K hi hpx hK
    dsimp only [encFP]
    gi_wp2
    refine hK _ _ ((KeepsOthers.alloc _ _).trans (KeepsOthers.alloc _ _) |>.from _) (((Kp.refl _).alloc _).alloc _) ((hi.alloc _).alloc _) ⟨W.heap.size, W.heap.size + 1, (Below.heap_alloc _ _ _ (by simp)).trans (heap_alloc_new _ _), by simpa using heap_alloc_new (W.alloc (.cells #[.pointer (some ⟨x.1.m, 0, none⟩)] 27)) (.cells #[.string x.2.nm, .int .i64 x.2.h, .int .i64 x.2.e] 94), ?_⟩
    simp only [List.setIfInBounds_toArray, List.set_cons_zero, List.set_cons_succ]
  case body =>
    rintro l pre x a' W hl ⟨r, hr⟩ hI ⟨Bv, Bx, hbv, hbx, rfl⟩ hpx
    simp only [List.setIfInBounds_toArray, List.set_cons_zero, List.set_cons_succ]
    obtain ⟨f, nm, ph, pe⟩ := x
    obtain ⟨hfm, hpm⟩ : f ∈ fs ∧ ⟨nm, ph, pe⟩ ∈ allParts f.ls := by
      have := hpx.subset (show (f, (⟨nm, ph, pe⟩ : Part)) ∈ pre ++ [(f, ⟨nm, ph, pe⟩)] by simp)
      simpa [fileParts] using this
    have HFO := hide (HOK.out f hfm)
    have HPO := hide (allParts_pok HFO.out.txt _ hpm)
    have hlen : pre.length + 1 ≤ 700000 := by
      have := hpx.length_le; simp at this; omega
    have HPX := hide (foldP_snoc kp keyT EV [] pre (f, ⟨nm, ph, pe⟩))
    obtain ⟨S, hS⟩ : ∃ S, foldP kp keyT EV [] pre = S := ⟨_, rfl⟩
    rw [hS] at hI HPX
    have HFA := hide (HFS.out.each f hfm)
    have HI := hide hI
    have HBV := hide hbv
    have HBX := hide hbx
    have HR := hide hr
    have hk := hI.kpv
    have hf := hI.fnv
    rw [HEd.out] at hk hf
    have ck : W.cell? ⟨Bk, 0, none⟩ = some (.func (.func kn) #[] lb) := by rw [cell_of_row W _ 0 _ _ _ hk]; rfl
    have cfn : W.cell? ⟨Bf, 0, none⟩ = some (.func (.func 37) #[] #[.pointer (some ⟨B1, 0, none⟩), .pointer (some ⟨Bs, 0, none⟩)]) := by rw [cell_of_row W _ 0 _ _ _ hf]; rfl
    have x0 : W.cell? ⟨Bx, 0, none⟩ = some (.string nm) := by rw [cell_of_row W _ 0 _ _ _ hbx]; rfl
    have x1 : W.cell? ⟨Bx, 1, none⟩ = some (.int .i64 ph) := by rw [cell_of_row W _ 1 _ _ _ hbx]; rfl
    have HKC : Hid (Calls Try.prog kn (#[.string nm] ++ lb) W fun e w' => e = .returned (.bool (kp nm)) ∧ w' = W) := keeps_any HKP.out (by have := hI.bl; rwa [hW0] at this)
    have HEG := hide (keeps_enters HKP.out)
    have eg := HEG.out
    have eB1 : E.B1 = B1 := by rw [HEd.out]
    have eBs : E.Bs = Bs := by rw [HEd.out]
    have HEB := hide (And.intro eB1 eBs)
    have hQ0 : pre.length * 4194304 ≤ 3000000000000 := by omega
    have hSEC := section_any E _ S nm W hI (Nat.le_trans HPO.out.nm (by unfold maxLen; omega)) hQ0
    rw [eB1, eBs] at hSEC
    have HSEC := hide hSEC
    have HLL := hide hl
    clear hk hf hbv hbx hr hI hS hfm hpm hpx hSEC eB1 eBs hl
    by_cases hkn : kp nm = true
    · have HOH := hide (show foldP kp keyT EV [] (pre ++ [(f, ⟨nm, ph, pe⟩)]) = foldE keyT EV f.ls nm (opH S ⟨nm, ph, pe⟩) (entsOf f.ls ⟨nm, ph, pe⟩) by rw [HPX.out]; unfold stepP; rw [if_pos hkn])
      have HOS : Hid (∀ W1, (0 ≤ ph → St E (pre.length * 4194304 + 1) (opn S nm) W1) → (¬ 0 ≤ ph → St E (pre.length * 4194304 + 1) S W1) → St E (pre.length * 4194304 + 1) (opH S ⟨nm, ph, pe⟩) W1) := fun W1 h1 h2 => by
        unfold opH; simp only; split
        · exact h1 ‹_›
        · exact h2 ‹_›
      by_cases hph : 0 ≤ ph
      · gi_wp2_with (first | (gi_at_call 37; refine (CallsIn.inRound l (callsIn_wide.2 HSEC.out)).mono ?_) | (refine ⟨trivial, ?_⟩; gi_at_call 37; refine (CallsIn.inRound l (callsIn_wide.2 HSEC.out)).mono ?_) | (refine ⟨trivial, ?_⟩; refine (CallsIn.inRound l (callsIn_wide.2 HKC.out)).mono ?_; rintro e w' ⟨rfl, hw⟩; have hw' := hw.symm; subst hw'))
        rintro e W1 ⟨g, rfl, _, hst1, hch1⟩
        have HI1 := hide (HOS.out W1 (fun _ => hst1) (fun h => absurd hph (by omega)))
        have HCH := hide hch1
        have hbv1 := hch1.cells _ _ _ _ HBV.out (by simp [freeT])
        have hbx1 := hch1.cells _ _ _ _ HBX.out (by simp [freeT])
        have hr1 := hch1.objs _ _ HR.out rfl (by have := HLL.out; omega) (by have := HLL.out; omega)
        clear hst1 hch1 ck cfn x0 x1 HBV HBX HR HI HOS HKC HSEC eg
        have cv : W1.cell? ⟨Bv, 0, none⟩ = some (.pointer (some ⟨f.m, 0, none⟩)) := by rw [cell_of_row W1 _ 0 _ _ _ hbv1]; rfl
        have x0 : W1.cell? ⟨Bx, 0, none⟩ = some (.string nm) := by rw [cell_of_row W1 _ 0 _ _ _ hbx1]; rfl
        have x1 : W1.cell? ⟨Bx, 1, none⟩ = some (.int .i64 ph) := by rw [cell_of_row W1 _ 1 _ _ _ hbx1]; rfl
        have x2 : W1.cell? ⟨Bx, 2, none⟩ = some (.int .i64 pe) := by rw [cell_of_row W1 _ 2 _ _ _ hbx1]; rfl
        have HBV := hide hbv1
        have HBX := hide hbx1
        have HR := hide hr1
        clear hbv1 hbx1 hr1
        gi_wp2_with (refine ⟨trivial, ?_⟩; gi_at_call 39; refine (CallsIn.inRound l (callsIn_wide.2 (ents_make _ _ _ _ _))).mono ?_; rintro e w' ⟨rfl, rfl⟩)
        clear cv x0 x1 x2
        obtain ⟨W2, hW2⟩ : ∃ W2, (W1.alloc (.cells #[.pointer (some ⟨f.m, 0, none⟩)] 27)).alloc (.cells #[.string nm, .int .i64 ph, .int .i64 pe] 94) = W2 := ⟨_, rfl⟩
        have hpb : W2.heap[W1.heap.size + 1]? = some (.cells #[.string nm, .int .i64 ph, .int .i64 pe] 94 (0, 0)) := by
          rw [← hW2]; simpa using heap_alloc_new (W1.alloc (.cells #[.pointer (some ⟨f.m, 0, none⟩)] 27)) (.cells #[.string nm, .int .i64 ph, .int .i64 pe] 94)
        have hfb : W2.heap[W1.heap.size]? = some (.cells #[.pointer (some ⟨f.m, 0, none⟩)] 27 (0, 0)) := by
          rw [← hW2, Below.heap_alloc _ _ _ (by simp)]; exact heap_alloc_new _ _
        have hch2 : Chg E W1 W2 := by rw [← hW2]; exact ((Chg.refl _ _).alloc _).alloc _
        have hst2 : St E (pre.length * 4194304 + 1) (opH S ⟨nm, ph, pe⟩) W2 := by rw [← hW2]; exact (HI1.out.alloc _).alloc _
        have hsz2 : W1.heap.size ≤ W2.heap.size := hch2.size
        rw [hW2]
        clear hW2
        have hlt1 : E.M1 < W1.heap.size := HI1.out.lt1
        have hlt2 : E.M2 < W1.heap.size := HI1.out.lt2
        have hr2 := hch2.objs _ _ HR.out rfl (by have := HLL.out; omega) (by have := HLL.out; omega)
        have hfile : FileAt W2 f := HFA.out.below (by have := hst2.bl; rwa [hW0] at this)
        have hG2 := ents_gives 5 (by omega) (W1.heap.size + 1) W1.heap.size f ⟨nm, ph, pe⟩ W2 hfile hpb hfb HFO.out.len ⟨HPO.out.lo, HPO.out.lt, HPO.out.hi⟩
        refine rangeFunc_nestedT (n := 6) (F := Fence.wide.inRound l) AxI rfl hr2 (by omega) (gf := 51) (lb := #[.pointer (some ⟨W1.heap.size + 1, 0, none⟩), .pointer (some ⟨W1.heap.size, 0, none⟩)]) rfl trivial (enters_of Try.func51 (by kernel_rfl) rfl) (encs := encI) (own := ownN) (Kp := Kp) (xs := entsOf f.ls ⟨nm, ph, pe⟩) (w0 := W2) hG2
          (fun h k => h.trans k) (fun W l o o' h ho => Kp.putObj W l o o' h ho) (Below.refl _ _) (fun _ => rfl)
          (fun is W => St E (pre.length * 4194304 + 1 + is.length * 3) (foldE keyT EV f.ls nm (opH S ⟨nm, ph, pe⟩) is) W ∧ Chg E W1 W) ?bears2 ⟨by simpa [foldE] using hst2, hch2⟩ ?ax2 ?assign2 ?body2 ?done2
        case bears2 =>
          refine ⟨fun s W o h => ⟨h.1.alloc o, h.2.alloc o⟩, fun s W h => ⟨h.1.drew, h.2.drew⟩, fun s W r c t fr j v h hr hc ht => ht.elim, fun s W r o o' h hr hc ho => ⟨h.1.put hc ho (by omega) (by omega) o', h.2.put (by omega) o'⟩⟩
        case ax2 => exact fun tm x a' W r o o' h _ _ _ => h
        case assign2 =>
          rintro l2 is i W3 K hi hpi hK
          dsimp only [encI]
          gi_wp2
          refine hK _ _ (KeepsFrom.refl _ _) (Kp.refl _) hi ?_
          simp only [AxI, List.setIfInBounds_toArray, List.set_cons_zero, List.set_cons_succ]
        case body2 =>
          rintro l2 is i a2 W3 hl2 - ⟨hst3, hch3⟩ hax hpi
          unfold AxI at hax
          subst hax
          simp only [List.setIfInBounds_toArray, List.set_cons_zero, List.set_cons_succ]
          have him := entsOf_mem HPO.out (hpi.subset (show i ∈ is ++ [i] by simp))
          obtain ⟨hil, hik⟩ := him
          have hS13 : S13 B1 Bs Bf Bx Bv nm ph pe f W3 := ⟨by have := hst3.fnv; rw [HEd.out] at this; exact this, hch3.cells _ _ _ _ HBX.out (by simp [freeT]), hch3.cells _ _ _ _ HBV.out (by simp [freeT]), HFA.out.below (by have := hst3.bl; rwa [hW0] at this)⟩
          obtain ⟨m, b, ao, ls⟩ := f
          simp only at hil hik
          obtain ⟨tx, kd, en, hln⟩ : ∃ tx kd en, at' ls i = ⟨tx, kd, en⟩ := ⟨_, _, _, rfl⟩
          obtain rfl : kd = 3 := by rw [hln] at hik; exact hik
          obtain rfl : ao = some ⟨b, 0, none⟩ := hS13.fl.lies.ao (by simp only; omega)
          have hcells : ∀ w', S13 B1 Bs Bf Bx Bv nm ph pe ⟨m, b, some ⟨b, 0, none⟩, ls⟩ w' → _ := fun w' h => h.cells hil hln
          have htx : tx.size ≤ 1048576 := by have := HFO.out.txt i hil; simp only at this; rwa [hln] at this
          have hFE : foldE keyT EV ls nm (opH S ⟨nm, ph, pe⟩) (is ++ [i]) = ent (foldE keyT EV ls nm (opH S ⟨nm, ph, pe⟩) is) nm (keyT tx) (EV ls i) := by rw [foldE_snoc, hln]
          obtain ⟨S3, hS3⟩ : ∃ S3, foldE keyT EV ls nm (opH S ⟨nm, ph, pe⟩) is = S3 := ⟨_, rfl⟩
          rw [hS3] at hst3 hFE
          have hisl : is.length + 1 ≤ 1048576 + 1 := by
            have h1 := hpi.length_le
            have h2 := entsOf_length HPO.out
            have h3 := HFO.out.len
            simp only [List.length_append, List.length_singleton] at h1
            simp only at h2 h3
            omega
          obtain ⟨Q3, hQ3⟩ : ∃ Q3, pre.length * 4194304 + 1 + is.length * 3 = Q3 := ⟨_, rfl⟩
          have hQ3b : Q3 ≤ 2999999999990 := by
            have h1 : pre.length * 4194304 ≤ 2936008605696 := Nat.le_trans (Nat.mul_le_mul_right 4194304 (show pre.length ≤ 699999 by omega)) (Nat.le_of_ble_eq_true rfl)
            rw [← hQ3]
            generalize pre.length * 4194304 = z at h1
            clear hQ0
            omega
          rw [hQ3] at hst3
          have HQ3 : Hid (pre.length * 4194304 + 1 + (is ++ [i]).length * 3 = Q3 + 3) := by rw [Hid, ← hQ3, List.length_append, List.length_singleton, Nat.add_mul, Nat.one_mul, Nat.add_assoc (pre.length * 4194304 + 1)]
          have HFE := hide hFE
          have HLN := hide hln
          have HIL := hide hil
          have hib : (i : Int) < (ls.length : Int) := by omega
          have hib0 : (0 : Int) ≤ (i : Int) := by omega
          have hlsl : ls.length ≤ 1048576 := HFO.out.len
          clear hQ3 hS3 hFE hik hpi hG2 hG hE hfile hpb hfb hst2 hch2 hst
          have HC := hide hcells
          have HS13 := hide hS13
          have HST3 := hide hst3
          have HCH3 := hide hch3
          clear hcells hS13 hst3 hch3
          gi_wp2
          refine frame_seq (fun tm htm KK hKK => ?_)
          have key : ∀ (s39 s40 s41 s42 s43 s44 s45 s46 s47 s48 s49 s50 s51 s52 s53 : Value) (g G : Nat) (W4 : World), St E (Q3 + 1) (opn S3 nm) W4 → VG E g (opn S3 nm) W4 → Chg E W3 W4 → W4.heap[G]? = some (.cells #[.string nm, .string (keyT tx)] 99 (0, 0)) →
              KK { tmps := ((((((((((((((((tm.setIfInBounds 39 s39).setIfInBounds 40 s40).setIfInBounds 41 s41).setIfInBounds 42 s42).setIfInBounds 43 s43).setIfInBounds 44 s44).setIfInBounds 45 s45).setIfInBounds 46 s46).setIfInBounds 47 s47).setIfInBounds 48 s48).setIfInBounds 49 s49).setIfInBounds 50 s50).setIfInBounds 51 s51).setIfInBounds 52 s52).setIfInBounds 53 s53).setIfInBounds 13 (.pointer (some ⟨G, 0, none⟩))).setIfInBounds 12 (.pointer (some ⟨g, sidx (opn S3 nm) nm * 2, none⟩)), defers := [] } W4 := by
            intro s39 s40 s41 s42 s43 s44 s45 s46 s47 s48 s49 s50 s51 s52 s53 g4 G W4 hst4 hvg4 hch4 hG4
            subst htm
            subst hKK
            simp only [List.setIfInBounds_toArray, List.set_cons_zero, List.set_cons_succ]
            have hIx := sidx_opn S3 nm
            have hIn := sidx_hit hIx
            have hEN : ent S3 nm (keyT tx) (EV ls i) = addVal (opk (opn S3 nm) (sidx (opn S3 nm) nm) (keyT tx)) (sidx (opn S3 nm) nm) (kidx (sat (opk (opn S3 nm) (sidx (opn S3 nm) nm) (keyT tx)) (sidx (opn S3 nm) nm)).ks (keyT tx)) (EV ls i) := rfl
            generalize opn S3 nm = Sx at hst4 hvg4 hIx hIn hEN ⊢
            generalize sidx Sx nm = Ix at hIx hIn hEN ⊢
            obtain ⟨v, hv, hvg, kv, vv, φk, φv, hR⟩ := hvg4
            obtain ⟨L2, hm2, hL2⟩ := hst4.m2
            have hksz : (keyT tx).size ≤ maxLen := Nat.le_trans (HKEY.out.1 tx) (Nat.le_trans htx (by unfold maxLen; omega))
            obtain ⟨kl, hkl⟩ := key99 (s := nm) (t := keyT tx) (Nat.le_trans HPO.out.nm (by unfold maxLen; omega)) hksz
            have eB2 : E.B2 = B2 := by rw [HEd.out]
            have eM2 : E.M2 = M2 := by rw [HEd.out]
            have c2 : W4.cell? ⟨B2, 0, none⟩ = some (.map (some M2)) := by rw [← eB2, ← eM2, cell_of_row W4 _ 0 _ _ _ hst4.m2v]; rfl
            have g0 : W4.cell? ⟨G, 0, none⟩ = some (.string nm) := by rw [cell_of_row W4 _ 0 _ _ _ hG4]; rfl
            have g1 : W4.cell? ⟨G, 1, none⟩ = some (.string (keyT tx)) := by rw [cell_of_row W4 _ 1 _ _ _ hG4]; rfl
            have hlook := hm2.look keyed99 Try.underlying86 hkl
            have hmem : ∀ j : Int, (Value.agg #[.string nm, .string (keyT tx)], j) ∈ L2 → ∃ b : Nat, j = b ∧ b < (sat Sx Ix).ks.length ∧ (kat (sat Sx Ix).ks b).nm = keyT tx := fun j hj => by
              obtain ⟨a', b', ha, hb, hp⟩ := (hL2 _).1 hj
              obtain ⟨hp1, hp2⟩ := Prod.mk.inj hp
              simp only [Value.agg.injEq, Array.mk.injEq, List.cons.injEq, Value.string.injEq, and_true] at hp1
              obtain rfl : a' = Ix := hst4.wf.apart a' Ix ha hIx (by rw [← hp1.1, hIn])
              exact ⟨b', hp2, hb, hp1.2.symm⟩
            by_cases hf : kidx (sat Sx Ix).ks (keyT tx) < (sat Sx Ix).ks.length
            · have hkh := kidx_hit hf
              have hopk : opk Sx Ix (keyT tx) = Sx := by unfold opk; rw [if_pos hf]
              rw [hopk] at hEN
              generalize kidx (sat Sx Ix).ks (keyT tx) = jx at hf hkh hEN
              have hrun : (Instr.lookup 86 (.map (some M2)) (.agg #[.string nm, .string (keyT tx)]) true).run Try.prog W4 = .ok (.tuple #[.int .i64 jx, .bool true]) W4 := by
                rw [← eM2]
                rcases hlook with ⟨j, hj, hrun⟩ | ⟨hno, _⟩
                · obtain ⟨b', rfl, hb', hn'⟩ := hmem j hj
                  obtain rfl : b' = jx := hst4.wf.kapart Ix b' jx hIx hb' hf (by rw [hn', hkh])
                  exact hrun
                · exact absurd ((hL2 _).2 ⟨Ix, jx, hIx, hf, by rw [hIn, hkh]⟩) (hno _)
              have hent := hEN
              have hchX := hch4
              clear hlook hmem hL2 hm2 hkl hEN
              have HX1 := hide hst4
              have HX2 := hide hR
              have HX3 := hide hchX
              have HX4 := hide hv
              have HX5 := hide hent
              have HX6 := hide hG4
              clear hst4 hR hchX hv hent hch4 hG4
              gi_wp2
              have hchX := HX3.out
              have hent := HX5.out
              obtain ⟨gk, cpk, hkvs, hgk, -, hgkl, -, hgkc, -⟩ := own_at (HX2.out.keys Ix hIx) (by omega)
              obtain ⟨ga, cpa, -, hga, -, hgal, -, hgac, -⟩ := own_at HX2.out.row (by omega)
              obtain rfl : ga = g4 := by rw [hga] at hvg; exact Option.some.inj hvg
              obtain ⟨aov, cpv, hvvs⟩ := own_slice (HX2.out.vals Ix jx hIx hf)
              have r1 : W4.cell? ⟨ga, Ix * 2 + 1, none⟩ = some (kv Ix) := by rw [hgac _ (by omega), pairs_1 _ _ _ _ hIx]
              have r2 : W4.cell? ⟨gk, jx * 2 + 1, none⟩ = some (vv Ix jx) := by rw [hgkc _ (by omega), pairs_1 _ _ _ _ hf]
              have hs19 := HS13.out.chg hchX
              have r3 : W4.cell? ⟨Bv, 0, none⟩ = some (.pointer (some ⟨m, 0, none⟩)) := by rw [cell_of_row W4 _ 0 _ _ _ hs19.pv]; rfl
              have hBvl : Bv < W4.heap.size := lt_of_some hs19.pv
              have HEV3 := hide (HEV.out ⟨m, b, some ⟨b, 0, none⟩, ls⟩ i W4.drew hs19.drew.fl HFO.out HIL.out (by simp only; rw [HLN.out]))
              have HVAL := hide (fun Wa W6 k' => St.val (Wa := Wa) (W6 := W6) (k' := k') (x := EV ls i) HX1.out HX4.out hvg HX2.out hIx hf hgk)
              have hvn : (kat (sat Sx Ix).ks jx).vs.length ≤ 2999999999993 := Nat.le_trans (HX1.out.wf.vlen Ix jx hIx hf) (by omega)
              have hbaseX : E.base ≤ W4.heap.size := HX1.out.lo.2.2.2.2
              obtain ⟨i9, hi9, hz90, hz91, hz92⟩ := info_parts Try.info9
              have HJX := hide (And.intro hkvs hvvs)
              have hjb : (jx : Int) < ((sat Sx Ix).ks.length : Int) := by omega
              have hjb0 : (0 : Int) ≤ (jx : Int) := by omega
              generalize hkl1 : (sat Sx Ix).ks.length = klen at hkvs hjb
              generalize hvl1 : (kat (sat Sx Ix).ks jx).vs.length = vlen at hvvs hvn
              rw [hkvs] at r1
              rw [hvvs] at r2
              clear hgac hgkc
              refine round_region_L (S := fun w' => w'.cell? ⟨ga, Ix * 2 + 1, none⟩ = some (.slice (some ⟨gk, 0, none⟩) klen cpk) ∧ w'.cell? ⟨gk, jx * 2 + 1, none⟩ = some (.slice aov vlen cpv) ∧ w'.cell? ⟨Bv, 0, none⟩ = some (.pointer (some ⟨m, 0, none⟩))) 20 21 (by rfl) (by rfl) (by kernel_rfl) (fun ⟨a, w, h⟩ => h) ⟨r1, r2, r3⟩ (fun hS => ?_)
              refine anyL_takeD (some 82) (i := 0) (v := .pointer (some ⟨ga, Ix * 2, none⟩)) (by kernel_rfl) (by kernel_rfl) (by kernel_rfl) (by kernel_rfl) (fun o ho => ?_) (fun _ _ _ h => h) hS ?_
              · simp only [List.getElem?_toArray, List.getElem?_cons_succ, List.getElem?_cons_zero, Option.some.injEq] at ho; subst ho; refine ⟨rfl, Or.inl ⟨by rfl, ?_⟩⟩; intro w' hw'; obtain ⟨q1, q2, q3⟩ := hw'; go_simp
              simp only [Act.put, List.setIfInBounds_toArray, List.set_cons_zero, List.set_cons_succ]
              refine anyL_takeD (some 83) (i := 1) (v := .pointer (some ⟨ga, Ix * 2, none⟩)) (by kernel_rfl) (by kernel_rfl) (by kernel_rfl) (by kernel_rfl) (fun o ho => ?_) (fun _ _ _ h => h) hS ?_
              · simp only [List.getElem?_toArray, List.getElem?_cons_succ, List.getElem?_cons_zero, Option.some.injEq] at ho; subst ho; refine ⟨rfl, Or.inl ⟨by rfl, ?_⟩⟩; intro w' hw'; obtain ⟨q1, q2, q3⟩ := hw'; go_simp
              simp only [Act.put, List.setIfInBounds_toArray, List.set_cons_zero, List.set_cons_succ]
              refine anyL_takeD (some 84) (i := 2) (v := .pointer (some ⟨ga, Ix * 2 + 1, none⟩)) (by kernel_rfl) (by kernel_rfl) (by kernel_rfl) (by kernel_rfl) (fun o ho => ?_) (fun _ _ _ h => h) hS ?_
              · simp only [List.getElem?_toArray, List.getElem?_cons_succ, List.getElem?_cons_zero, Option.some.injEq] at ho; subst ho; refine ⟨rfl, Or.inl ⟨by rfl, ?_⟩⟩; intro w' hw'; obtain ⟨q1, q2, q3⟩ := hw'; go_simp
              simp only [Act.put, List.setIfInBounds_toArray, List.set_cons_zero, List.set_cons_succ]
              refine anyL_takeD (some 85) (i := 3) (v := .slice (some ⟨gk, 0, none⟩) klen cpk) (by kernel_rfl) (by kernel_rfl) (by kernel_rfl) (by kernel_rfl) (fun o ho => ?_) (fun _ _ _ h => h) hS ?_
              · simp only [List.getElem?_toArray, List.getElem?_cons_succ, List.getElem?_cons_zero, Option.some.injEq] at ho; subst ho; refine ⟨rfl, Or.inl ⟨by rfl, ?_⟩⟩; intro w' hw'; obtain ⟨q1, q2, q3⟩ := hw'; go_simp
              simp only [Act.put, List.setIfInBounds_toArray, List.set_cons_zero, List.set_cons_succ]
              refine anyL_takeD (some 86) (i := 4) (v := .int .i64 jx) (by kernel_rfl) (by kernel_rfl) (by kernel_rfl) (by kernel_rfl) (fun o ho => ?_) (fun _ _ _ h => h) hS ?_
              · simp only [List.getElem?_toArray, List.getElem?_cons_succ, List.getElem?_cons_zero, Option.some.injEq] at ho; subst ho; refine ⟨rfl, Or.inl ⟨by rfl, ?_⟩⟩; intro w' hw'; obtain ⟨q1, q2, q3⟩ := hw'; go_simp
              simp only [Act.put, List.setIfInBounds_toArray, List.set_cons_zero, List.set_cons_succ]
              refine anyL_takeD (some 87) (i := 5) (v := .pointer (some ⟨ga, Ix * 2, none⟩)) (by kernel_rfl) (by kernel_rfl) (by kernel_rfl) (by kernel_rfl) (fun o ho => ?_) (fun _ _ _ h => h) hS ?_
              · simp only [List.getElem?_toArray, List.getElem?_cons_succ, List.getElem?_cons_zero, Option.some.injEq] at ho; subst ho; refine ⟨rfl, Or.inl ⟨by rfl, ?_⟩⟩; intro w' hw'; obtain ⟨q1, q2, q3⟩ := hw'; go_simp
              simp only [Act.put, List.setIfInBounds_toArray, List.set_cons_zero, List.set_cons_succ]
              refine anyL_takeD (some 88) (i := 6) (v := .pointer (some ⟨ga, Ix * 2, none⟩)) (by kernel_rfl) (by kernel_rfl) (by kernel_rfl) (by kernel_rfl) (fun o ho => ?_) (fun _ _ _ h => h) hS ?_
              · simp only [List.getElem?_toArray, List.getElem?_cons_succ, List.getElem?_cons_zero, Option.some.injEq] at ho; subst ho; refine ⟨rfl, Or.inl ⟨by rfl, ?_⟩⟩; intro w' hw'; obtain ⟨q1, q2, q3⟩ := hw'; go_simp
              simp only [Act.put, List.setIfInBounds_toArray, List.set_cons_zero, List.set_cons_succ]
              refine anyL_takeD (some 89) (i := 7) (v := .pointer (some ⟨ga, Ix * 2 + 1, none⟩)) (by kernel_rfl) (by kernel_rfl) (by kernel_rfl) (by kernel_rfl) (fun o ho => ?_) (fun _ _ _ h => h) hS ?_
              · simp only [List.getElem?_toArray, List.getElem?_cons_succ, List.getElem?_cons_zero, Option.some.injEq] at ho; subst ho; refine ⟨rfl, Or.inl ⟨by rfl, ?_⟩⟩; intro w' hw'; obtain ⟨q1, q2, q3⟩ := hw'; go_simp
              simp only [Act.put, List.setIfInBounds_toArray, List.set_cons_zero, List.set_cons_succ]
              refine anyL_takeD (some 90) (i := 8) (v := .slice (some ⟨gk, 0, none⟩) klen cpk) (by kernel_rfl) (by kernel_rfl) (by kernel_rfl) (by kernel_rfl) (fun o ho => ?_) (fun _ _ _ h => h) hS ?_
              · simp only [List.getElem?_toArray, List.getElem?_cons_succ, List.getElem?_cons_zero, Option.some.injEq] at ho; subst ho; refine ⟨rfl, Or.inl ⟨by rfl, ?_⟩⟩; intro w' hw'; obtain ⟨q1, q2, q3⟩ := hw'; go_simp
              simp only [Act.put, List.setIfInBounds_toArray, List.set_cons_zero, List.set_cons_succ]
              refine anyL_takeD (some 91) (i := 9) (v := .int .i64 jx) (by kernel_rfl) (by kernel_rfl) (by kernel_rfl) (by kernel_rfl) (fun o ho => ?_) (fun _ _ _ h => h) hS ?_
              · simp only [List.getElem?_toArray, List.getElem?_cons_succ, List.getElem?_cons_zero, Option.some.injEq] at ho; subst ho; refine ⟨rfl, Or.inl ⟨by rfl, ?_⟩⟩; intro w' hw'; obtain ⟨q1, q2, q3⟩ := hw'; go_simp
              simp only [Act.put, List.setIfInBounds_toArray, List.set_cons_zero, List.set_cons_succ]
              refine anyL_takeD (some 92) (i := 10) (v := .pointer (some ⟨gk, jx * 2, none⟩)) (by kernel_rfl) (by kernel_rfl) (by kernel_rfl) (by kernel_rfl) (fun o ho => ?_) (fun _ _ _ h => h) hS ?_
              · simp only [List.getElem?_toArray, List.getElem?_cons_succ, List.getElem?_cons_zero, Option.some.injEq] at ho; subst ho; refine ⟨rfl, Or.inl ⟨by rfl, ?_⟩⟩; intro w' hw'; obtain ⟨q1, q2, q3⟩ := hw'; go_simp
              simp only [Act.put, List.setIfInBounds_toArray, List.set_cons_zero, List.set_cons_succ]
              refine anyL_takeD (some 93) (i := 11) (v := .pointer (some ⟨gk, jx * 2 + 1, none⟩)) (by kernel_rfl) (by kernel_rfl) (by kernel_rfl) (by kernel_rfl) (fun o ho => ?_) (fun _ _ _ h => h) hS ?_
              · simp only [List.getElem?_toArray, List.getElem?_cons_succ, List.getElem?_cons_zero, Option.some.injEq] at ho; subst ho; refine ⟨rfl, Or.inl ⟨by rfl, ?_⟩⟩; intro w' hw'; obtain ⟨q1, q2, q3⟩ := hw'; go_simp
              simp only [Act.put, List.setIfInBounds_toArray, List.set_cons_zero, List.set_cons_succ]
              refine anyL_takeD (some 94) (i := 12) (v := .slice aov vlen cpv) (by kernel_rfl) (by kernel_rfl) (by kernel_rfl) (by kernel_rfl) (fun o ho => ?_) (fun _ _ _ h => h) hS ?_
              · simp only [List.getElem?_toArray, List.getElem?_cons_succ, List.getElem?_cons_zero, Option.some.injEq] at ho; subst ho; refine ⟨rfl, Or.inl ⟨by rfl, ?_⟩⟩; intro w' hw'; obtain ⟨q1, q2, q3⟩ := hw'; go_simp
              simp only [Act.put, List.setIfInBounds_toArray, List.set_cons_zero, List.set_cons_succ]
              refine anyL_takeD (some 95) (i := 13) (v := .pointer (some ⟨m, 0, none⟩)) (by kernel_rfl) (by kernel_rfl) (by kernel_rfl) (by kernel_rfl) (fun o ho => ?_) (fun _ _ _ h => h) hS ?_
              · simp only [List.getElem?_toArray, List.getElem?_cons_succ, List.getElem?_cons_zero, Option.some.injEq] at ho; subst ho; refine ⟨rfl, Or.inl ⟨by rfl, ?_⟩⟩; intro w' hw'; obtain ⟨q1, q2, q3⟩ := hw'; go_simp
              simp only [Act.put, List.setIfInBounds_toArray, List.set_cons_zero, List.set_cons_succ]
              refine anyL_takeD (some 96) (i := 14) (v := .int .i64 i) (by kernel_rfl) (by kernel_rfl) (by kernel_rfl) (by kernel_rfl) (fun o ho => ?_) (fun _ _ _ h => h) hS ?_
              · simp only [List.getElem?_toArray, List.getElem?_cons_succ, List.getElem?_cons_zero, Option.some.injEq] at ho; subst ho; refine ⟨rfl, Or.inl ⟨by rfl, ?_⟩⟩; intro w' hw'; obtain ⟨q1, q2, q3⟩ := hw'; go_simp
              simp only [Act.put, List.setIfInBounds_toArray, List.set_cons_zero, List.set_cons_succ]
              refine anyL_oneD (i := 15) (by kernel_rfl) (of_decide_eq_true (by kernel_rfl)) (fun o ho K hK => ?_)
              simp only [List.getElem?_toArray, List.getElem?_cons_succ, List.getElem?_cons_zero, Option.some.injEq] at ho; subst ho
              rw [if_pos (by rfl)]
              go_simp
              refine HEV3.out.mono ?_
              rintro e W8 ⟨rfl, hb8⟩
              have hb8' : Below W4.heap.size W4 W8 := ((Below.refl _ W4).drew).trans hb8
              have hS8 : W8.cell? ⟨ga, Ix * 2 + 1, none⟩ = some (.slice (some ⟨gk, 0, none⟩) klen cpk) ∧ W8.cell? ⟨gk, jx * 2 + 1, none⟩ = some (.slice aov vlen cpv) ∧ W8.cell? ⟨Bv, 0, none⟩ = some (.pointer (some ⟨m, 0, none⟩)) := ⟨(hb8'.cell hgal).trans r1, (hb8'.cell hgkl).trans r2, (hb8'.cell hBvl).trans r3⟩
              refine hK.out _ _ (fun _ => hS8) ?_
              try simp only [Act.put, List.setIfInBounds_toArray, List.set_cons_zero, List.set_cons_succ]
              have hWa : Below W4.heap.size W4 (W8.alloc (.cells #[.string (EV ls i)] 9)) := hb8'.alloc hb8'.size _
              have hSa : (W8.alloc (.cells #[.string (EV ls i)] 9)).cell? ⟨ga, Ix * 2 + 1, none⟩ = some (.slice (some ⟨gk, 0, none⟩) klen cpk) ∧ (W8.alloc (.cells #[.string (EV ls i)] 9)).cell? ⟨gk, jx * 2 + 1, none⟩ = some (.slice aov vlen cpv) ∧ (W8.alloc (.cells #[.string (EV ls i)] 9)).cell? ⟨Bv, 0, none⟩ = some (.pointer (some ⟨m, 0, none⟩)) := ⟨(hWa.cell hgal).trans r1, (hWa.cell hgkl).trans r2, (hWa.cell hBvl).trans r3⟩
              refine anyL_oneD (i := 16) (by kernel_rfl) (of_decide_eq_true (by kernel_rfl)) (fun o ho K hK => ?_)
              simp only [List.getElem?_toArray, List.getElem?_cons_succ, List.getElem?_cons_zero, Option.some.injEq] at ho; subst ho
              rw [if_pos (by rfl)]
              go_simp
              refine hK.out _ _ (fun _ => hSa) ?_
              try simp only [Act.put, List.setIfInBounds_toArray, List.set_cons_zero, List.set_cons_succ]
              have HVA := hide (HVAL.out (W8.alloc (.cells #[.string (EV ls i)] 9)))
              have hown8 := (HVA.out W8 (.bool true) hWa).1.vals Ix jx hIx hf
              rw [hvl1, HJX.out.2, hvl1] at hown8
              refine anyL_oneD (i := 17) (by kernel_rfl) (of_decide_eq_true (by kernel_rfl)) (fun o ho K hK => ?_)
              simp only [List.getElem?_toArray, List.getElem?_cons_succ, List.getElem?_cons_zero, Option.some.injEq] at ho; subst ho
              refine step_append_lies _ (by rfl) _ _ _ (by rfl) E.base 9 i9 (.string ⟨#[]⟩) 1 16 Try.underlying76 hi9 hz90 hz91 hz92 (by rfl) (by omega) (.slice aov vlen cpv) vlen _ (by rfl) hown8 ⟨W8.heap.size, 0, none⟩ 1 1 [.string (EV ls i)] (by rfl) (by rfl) (cell_one_new _ _ _) (by simp [Value.oneCell']) (by omega) (by unfold maxLen; omega) (by omega) (by have := hWa.size; omega) (W8.heap.size + 1) (by simp) ?_
              intro g6 cap6 W6 hown6 hgr6 hat6 hlt6
              have hfin := (HVA.out W6 (.slice (some ⟨g6, 0, none⟩) (vlen + 1) cap6) hWa).2 (by rw [HJX.out.2, hvl1]; exact hgr6) (by rw [hvl1]; exact hown6) (by rw [HJX.out.2, hvl1]; exact hat6.elim (fun h => .inl h.symm) (fun h => .inr (by rw [h]; simp [Value.ownBlock])))
              obtain ⟨z1, z2, z3, z4, z5⟩ := hfin
              rw [HJX.out.1, hkl1] at z5
              rw [HJX.out.2, hvl1] at z3
              have z6 : W6.cell? ⟨Bv, 0, none⟩ = some (.pointer (some ⟨m, 0, none⟩)) := by rw [cell_of_row W6 _ 0 _ _ _ ((Chg.row (E := E) hgr6 hown8 (by simp [freeT])).cells _ _ _ _ ((hWa.block _ hBvl).trans hs19.pv) (by simp [freeT]))]; rfl
              refine hK.out _ _ (fun _ => ⟨z5, z3, z6⟩) ?_
              try simp only [Act.put, List.setIfInBounds_toArray, List.set_cons_zero, List.set_cons_succ]
              refine anyL_oneD (i := 18) (by kernel_rfl) (of_decide_eq_true (by kernel_rfl)) (fun o ho K hK => ?_)
              simp only [List.getElem?_toArray, List.getElem?_cons_succ, List.getElem?_cons_zero, Option.some.injEq] at ho; subst ho
              rw [if_pos (by rfl)]
              go_simp
              refine hK.out _ _ (fun _ => ⟨z5, z3, z6⟩) ?_
              try simp only [Act.put, List.setIfInBounds_toArray, List.set_cons_zero, List.set_cons_succ]
              refine anyL_takeD (some 101) (i := 19) (v := .pointer (some ⟨gk, jx * 2 + 1, none⟩)) (by kernel_rfl) (by kernel_rfl) (by kernel_rfl) (by kernel_rfl) (fun o ho => ?_) (fun _ _ _ h => h) ⟨z5, z3, z6⟩ ?_
              · simp only [List.getElem?_toArray, List.getElem?_cons_succ, List.getElem?_cons_zero, Option.some.injEq] at ho; subst ho; refine ⟨rfl, Or.inl ⟨by rfl, ?_⟩⟩; intro w' hw'; obtain ⟨q1, q2, q3⟩ := hw'; go_simp
              simp only [Act.put, List.setIfInBounds_toArray, List.set_cons_zero, List.set_cons_succ]
              have HP : Hid (roundPost W2.heap.size Kp (fun is W => St E (pre.length * 4194304 + 1 + is.length * 3) (foldE keyT EV ls nm (opH S ⟨nm, ph, pe⟩) is) W ∧ Chg E W1 W) (is ++ [i]) W3 .normal ⟨#[], []⟩ (W6.setCell ⟨gk, jx * 2 + 1, none⟩ (.slice (some ⟨g6, 0, none⟩) (vlen + 1) cap6))) := by
                have hcc := hchX.trans z2
                refine ⟨hcc.from (by omega) (by omega), hcc.kp, ?_, HCH3.out.trans hcc⟩
                rw [HFE.out, HQ3.out, hent]
                exact z1.mono (by omega)
              refine anyL_oneD (i := 20) (by kernel_rfl) (of_decide_eq_true (by kernel_rfl)) (fun o ho K hK => ?_)
              simp only [List.getElem?_toArray, List.getElem?_cons_succ, List.getElem?_cons_zero, Option.some.injEq] at ho; subst ho
              rw [if_pos (by rfl)]
              go_simp
              refine hK.out _ _ (fun h => absurd rfl h) ?_
              try simp only [Act.put, List.setIfInBounds_toArray, List.set_cons_zero, List.set_cons_succ]
              refine anyL_done (by kernel_rfl) ?_ _
              exact HP.out
            · have hno := kidx_none hf
              have hopk : opk Sx Ix (keyT tx) = addKey Sx Ix (keyT tx) := by unfold opk; rw [if_neg hf]
              have hsk : sat (addKey Sx Ix (keyT tx)) Ix = ⟨(sat Sx Ix).nm, (sat Sx Ix).ks ++ [⟨keyT tx, []⟩]⟩ := by unfold addKey; rw [sat_set_same hIx]
              have hkx : kidx (sat (addKey Sx Ix (keyT tx)) Ix).ks (keyT tx) = (sat Sx Ix).ks.length := by
                rw [hsk]
                exact kidx_eq (by simp) (by rw [kat_new]) (fun j hj => by rw [kat_app hj]; exact hno j hj)
              rw [hopk, hkx] at hEN
              have hnL : ∀ j : Int, (Value.agg #[.string nm, .string (keyT tx)], j) ∉ L2 := fun j hj => by obtain ⟨b', _, hb', hn'⟩ := hmem j hj; exact hno b' hb' hn'
              obtain ⟨W5, hput, hM5, hg5, hsz5⟩ := hm2.put keyed99 Try.underlying86 hkl hnL ((sat Sx Ix).ks.length : Int)
              have hrun : (Instr.lookup 86 (.map (some M2)) (.agg #[.string nm, .string (keyT tx)]) true).run Try.prog W4 = .ok (.tuple #[.int .i64 0, .bool false]) W4 := by
                rw [← eM2]
                rcases hlook with ⟨j, hj, _⟩ | ⟨_, hrun⟩
                · exact absurd hj (hnL j)
                · exact hrun
              rw [eM2] at hput
              have HKS := hide (fun Wa W6 k' => St.key (Wa := Wa) (W6 := W6) (k' := k') (key := keyT tx) hst4 hv hvg hR hIx hno hL2 (by rw [hIn]; exact hM5) hg5)
              obtain ⟨es5, cl5, hob5⟩ := hm2.obj
              have hst5 : Stay (fun _ => True) W4 W5 := Stay.grown hg5 hob5 (fun c t fr e => by cases e)
              obtain ⟨ga0, cpa0, -, hga0, -, hg4l0, -, hgac0, -⟩ := own_at hR.row (by omega)
              obtain rfl : ga0 = g4 := by rw [hga0] at hvg; exact Option.some.inj hvg
              obtain ⟨gc, hgc⟩ := own_type hR.row hga0
              have r4 : W4.cell? ⟨ga0, Ix * 2 + 1, none⟩ = some (kv Ix) := by rw [hgac0 _ (by omega), pairs_1 _ _ _ _ hIx]
              have r5 : W5.cell? ⟨ga0, Ix * 2 + 1, none⟩ = some (kv Ix) := by rw [← r4, cell_of_row W5 _ _ _ _ _ (hst5.same _ _ _ _ hgc trivial), cell_of_row W4 _ _ _ _ _ hgc]
              obtain ⟨aok, cpk0, hkvs0⟩ := own_slice (hR.keys Ix hIx)
              rw [hkvs0] at r4 r5
              have hG5 := hst5.same _ _ _ _ hG4 trivial
              have g5 : W5.cell? ⟨G, 1, none⟩ = some (.string (keyT tx)) := by rw [cell_of_row W5 _ 1 _ _ _ hG5]; rfl
              have hg4l : ga0 < W5.heap.size := lt_of_some (hst5.same _ _ _ _ hgc trivial)
              have hGl : G < W5.heap.size := lt_of_some hG5
              have hbase5 : E.base ≤ W5.heap.size := Nat.le_trans hst4.lo.2.2.2.2 hst5.size
              have hklb : (sat Sx Ix).ks.length ≤ 2999999999992 := Nat.le_trans (hst4.wf.klen Ix hIx) (by omega)
              have hjs : (sat (addKey Sx Ix (keyT tx)) Ix).ks.length = (sat Sx Ix).ks.length + 1 := by rw [hsk]; simp
              have hIx2 : Ix < (addKey Sx Ix (keyT tx)).length := by rw [addKey_len]; exact hIx
              obtain ⟨i78, hi78, hz780, hz781, hz782⟩ := info_parts Try.info78
              generalize hjx : (sat Sx Ix).ks.length = jx at hput r4 r5 hklb hjs hkvs0 hEN
              have HJ0 := hide (And.intro hjx hkvs0)
              have HX3 := hide hch4
              have HX5 := hide hEN
              have HX7 := hide hvg
              have HX8 := hide hG5
              clear hst4 hR hv hch4 hG4 hlook hmem hL2 hm2 hkl hEN hM5 hg5 hsz5 hnL hno hst5 hgc hob5 hgac0 hga0 hvg hG5 hjx hkvs0 hsk hkx hopk hf
              gi_wp2
              have hG5 := HX8.out
              refine round_region_L (S := fun w' => w'.cell? ⟨ga0, Ix * 2 + 1, none⟩ = some (.slice aok jx cpk0) ∧ w'.cell? ⟨G, 1, none⟩ = some (.string (keyT tx))) 12 13 (by rfl) (by rfl) (by kernel_rfl) (fun ⟨a, w, h⟩ => h) ⟨r5, g5⟩ (fun hS => ?_)
              refine anyL_takeD (some 70) (i := 0) (v := .pointer (some ⟨ga0, Ix * 2, none⟩)) (by kernel_rfl) (by kernel_rfl) (by kernel_rfl) (by kernel_rfl) (fun o ho => ?_) (fun _ _ _ h => h) hS ?_
              · simp only [List.getElem?_toArray, List.getElem?_cons_succ, List.getElem?_cons_zero, Option.some.injEq] at ho; subst ho; refine ⟨rfl, Or.inl ⟨by rfl, ?_⟩⟩; intro w' hw'; obtain ⟨q1, q2⟩ := hw'; go_simp
              simp only [Act.put, List.setIfInBounds_toArray, List.set_cons_zero, List.set_cons_succ]
              refine anyL_takeD (some 71) (i := 1) (v := .pointer (some ⟨ga0, Ix * 2, none⟩)) (by kernel_rfl) (by kernel_rfl) (by kernel_rfl) (by kernel_rfl) (fun o ho => ?_) (fun _ _ _ h => h) hS ?_
              · simp only [List.getElem?_toArray, List.getElem?_cons_succ, List.getElem?_cons_zero, Option.some.injEq] at ho; subst ho; refine ⟨rfl, Or.inl ⟨by rfl, ?_⟩⟩; intro w' hw'; obtain ⟨q1, q2⟩ := hw'; go_simp
              simp only [Act.put, List.setIfInBounds_toArray, List.set_cons_zero, List.set_cons_succ]
              refine anyL_takeD (some 72) (i := 2) (v := .pointer (some ⟨ga0, Ix * 2, none⟩)) (by kernel_rfl) (by kernel_rfl) (by kernel_rfl) (by kernel_rfl) (fun o ho => ?_) (fun _ _ _ h => h) hS ?_
              · simp only [List.getElem?_toArray, List.getElem?_cons_succ, List.getElem?_cons_zero, Option.some.injEq] at ho; subst ho; refine ⟨rfl, Or.inl ⟨by rfl, ?_⟩⟩; intro w' hw'; obtain ⟨q1, q2⟩ := hw'; go_simp
              simp only [Act.put, List.setIfInBounds_toArray, List.set_cons_zero, List.set_cons_succ]
              refine anyL_takeD (some 73) (i := 3) (v := .pointer (some ⟨ga0, Ix * 2 + 1, none⟩)) (by kernel_rfl) (by kernel_rfl) (by kernel_rfl) (by kernel_rfl) (fun o ho => ?_) (fun _ _ _ h => h) hS ?_
              · simp only [List.getElem?_toArray, List.getElem?_cons_succ, List.getElem?_cons_zero, Option.some.injEq] at ho; subst ho; refine ⟨rfl, Or.inl ⟨by rfl, ?_⟩⟩; intro w' hw'; obtain ⟨q1, q2⟩ := hw'; go_simp
              simp only [Act.put, List.setIfInBounds_toArray, List.set_cons_zero, List.set_cons_succ]
              refine anyL_takeD (some 74) (i := 4) (v := .slice aok jx cpk0) (by kernel_rfl) (by kernel_rfl) (by kernel_rfl) (by kernel_rfl) (fun o ho => ?_) (fun _ _ _ h => h) hS ?_
              · simp only [List.getElem?_toArray, List.getElem?_cons_succ, List.getElem?_cons_zero, Option.some.injEq] at ho; subst ho; refine ⟨rfl, Or.inl ⟨by rfl, ?_⟩⟩; intro w' hw'; obtain ⟨q1, q2⟩ := hw'; go_simp
              simp only [Act.put, List.setIfInBounds_toArray, List.set_cons_zero, List.set_cons_succ]
              refine anyL_takeD (some 75) (i := 5) (v := .pointer (some ⟨G, 1, none⟩)) (by kernel_rfl) (by kernel_rfl) (by kernel_rfl) (by kernel_rfl) (fun o ho => ?_) (fun _ _ _ h => h) hS ?_
              · simp only [List.getElem?_toArray, List.getElem?_cons_succ, List.getElem?_cons_zero, Option.some.injEq] at ho; subst ho; refine ⟨rfl, Or.inl ⟨by rfl, ?_⟩⟩; intro w' hw'; obtain ⟨q1, q2⟩ := hw'; go_simp
              simp only [Act.put, List.setIfInBounds_toArray, List.set_cons_zero, List.set_cons_succ]
              refine anyL_takeD (some 76) (i := 6) (v := .string (keyT tx)) (by kernel_rfl) (by kernel_rfl) (by kernel_rfl) (by kernel_rfl) (fun o ho => ?_) (fun _ _ _ h => h) hS ?_
              · simp only [List.getElem?_toArray, List.getElem?_cons_succ, List.getElem?_cons_zero, Option.some.injEq] at ho; subst ho; refine ⟨rfl, Or.inl ⟨by rfl, ?_⟩⟩; intro w' hw'; obtain ⟨q1, q2⟩ := hw'; go_simp
              simp only [Act.put, List.setIfInBounds_toArray, List.set_cons_zero, List.set_cons_succ]
              refine anyL_takeD (some 77) (i := 7) (v := .agg #[.string (keyT tx), .slice none 0 0]) (by kernel_rfl) (by kernel_rfl) (by kernel_rfl) (by kernel_rfl) (fun o ho => ?_) (fun _ _ _ h => h) hS ?_
              · simp only [List.getElem?_toArray, List.getElem?_cons_succ, List.getElem?_cons_zero, Option.some.injEq] at ho; subst ho; refine ⟨rfl, Or.inl ⟨by rfl, ?_⟩⟩; intro w' hw'; obtain ⟨q1, q2⟩ := hw'; go_simp
              simp only [Act.put, List.setIfInBounds_toArray, List.set_cons_zero, List.set_cons_succ]
              have hWa : Below W5.heap.size W5 (W5.alloc (.cells #[.string (keyT tx), .slice none 0 0] 78)).drew := ((Below.refl _ W5).alloc (Nat.le_refl _) _).drew
              have hSa : (W5.alloc (.cells #[.string (keyT tx), .slice none 0 0] 78)).drew.cell? ⟨ga0, Ix * 2 + 1, none⟩ = some (.slice aok jx cpk0) ∧ (W5.alloc (.cells #[.string (keyT tx), .slice none 0 0] 78)).drew.cell? ⟨G, 1, none⟩ = some (.string (keyT tx)) := ⟨(hWa.cell hg4l).trans r5, (hWa.cell hGl).trans g5⟩
              refine anyL_oneD (i := 8) (by kernel_rfl) (of_decide_eq_true (by kernel_rfl)) (fun o ho K hK => ?_)
              simp only [List.getElem?_toArray, List.getElem?_cons_succ, List.getElem?_cons_zero, Option.some.injEq] at ho; subst ho
              rw [if_pos (by rfl)]
              go_simp
              refine hK.out _ _ (fun _ => hSa) ?_
              try simp only [Act.put, List.setIfInBounds_toArray, List.set_cons_zero, List.set_cons_succ]
              have hown5 := (HKS.out (W5.alloc (.cells #[.string (keyT tx), .slice none 0 0] 78)).drew W5 (.bool true) hWa).1.keys Ix hIx
              rw [HJ0.out.1, HJ0.out.2] at hown5
              refine anyL_oneD (i := 9) (by kernel_rfl) (of_decide_eq_true (by kernel_rfl)) (fun o ho K hK => ?_)
              simp only [List.getElem?_toArray, List.getElem?_cons_succ, List.getElem?_cons_zero, Option.some.injEq] at ho; subst ho
              refine step_append_lies _ (by rfl) _ _ _ (by rfl) E.base 78 i78 (.agg #[.string ⟨#[]⟩, .slice none 0 0]) 2 40 Try.underlying70 hi78 hz780 hz781 hz782 (by rfl) (by omega) (.slice aok jx cpk0) jx _ (by rfl) hown5 ⟨W5.heap.size, 0, none⟩ 1 1 [.string (keyT tx), .slice none 0 0] (by rfl) (by rfl) (cell_two_new _ _ _ _) (by simp [Value.oneCell']) (by omega) (by unfold maxLen; omega) (by omega) (by have := hWa.size; omega) (W5.heap.size + 1) (by simp) ?_
              intro g6 cap6 W6 hown6 hgr6 hat6 hlt6
              have hfin := (HKS.out (W5.alloc (.cells #[.string (keyT tx), .slice none 0 0] 78)).drew W6 (.slice (some ⟨g6, 0, none⟩) (jx + 1) cap6) hWa).2 (by rw [HJ0.out.2]; exact hgr6) (by rw [HJ0.out.1]; exact hown6) (by rw [HJ0.out.2]; exact hat6.elim (fun h => .inl h.symm) (fun h => .inr (by rw [h]; simp [Value.ownBlock])))
              obtain ⟨z1, z2, z3, z4, z5, z6⟩ := hfin
              rw [HJ0.out.2] at z5
              have z7 : W6.cell? ⟨G, 1, none⟩ = some (.string (keyT tx)) := by rw [cell_of_row W6 _ 1 _ _ _ ((Chg.row (E := E) hgr6 hown5 (by simp [freeT])).cells _ _ _ _ ((hWa.block _ hGl).trans hG5) (by simp [freeT]))]; rfl
              refine hK.out _ _ (fun _ => ⟨z5, z7⟩) ?_
              try simp only [Act.put, List.setIfInBounds_toArray, List.set_cons_zero, List.set_cons_succ]
              refine anyL_oneD (i := 10) (by kernel_rfl) (of_decide_eq_true (by kernel_rfl)) (fun o ho K hK => ?_)
              simp only [List.getElem?_toArray, List.getElem?_cons_succ, List.getElem?_cons_zero, Option.some.injEq] at ho; subst ho
              rw [if_pos (by rfl)]
              go_simp
              refine hK.out _ _ (fun _ => ⟨z5, z7⟩) ?_
              try simp only [Act.put, List.setIfInBounds_toArray, List.set_cons_zero, List.set_cons_succ]
              refine anyL_takeD (some 81) (i := 11) (v := .pointer (some ⟨ga0, Ix * 2 + 1, none⟩)) (by kernel_rfl) (by kernel_rfl) (by kernel_rfl) (by kernel_rfl) (fun o ho => ?_) (fun _ _ _ h => h) ⟨z5, z7⟩ ?_
              · simp only [List.getElem?_toArray, List.getElem?_cons_succ, List.getElem?_cons_zero, Option.some.injEq] at ho; subst ho; refine ⟨rfl, Or.inl ⟨by rfl, ?_⟩⟩; intro w' hw'; obtain ⟨q1, q2⟩ := hw'; go_simp
              simp only [Act.put, List.setIfInBounds_toArray, List.set_cons_zero, List.set_cons_succ]
              refine anyL_oneD (i := 12) (by kernel_rfl) (of_decide_eq_true (by kernel_rfl)) (fun o ho K hK => ?_)
              simp only [List.getElem?_toArray, List.getElem?_cons_succ, List.getElem?_cons_zero, Option.some.injEq] at ho; subst ho
              rw [if_pos (by rfl)]
              go_simp
              refine hK.out _ _ (fun h => absurd rfl h) ?_
              try simp only [Act.put, List.setIfInBounds_toArray, List.set_cons_zero, List.set_cons_succ]
              have hchX := HX3.out.trans z2
              generalize W6.setCell ⟨ga0, Ix * 2 + 1, none⟩ (.slice (some ⟨g6, 0, none⟩) (jx + 1) cap6) = X at z1 z2 z3 z4 hchX ⊢
              clear z2 z5 z6 z7 hown6 hgr6 hat6 hlt6 hown5 hWa hSa hS hK
              refine anyL_done (by kernel_rfl) ?_ _
              gi_wp2
              obtain ⟨kv2, vv2, φk2, φv2, hR2⟩ := z4
              have hj2 : jx < (sat (addKey Sx Ix (keyT tx)) Ix).ks.length := by omega
              have hent := HX5.out
              have hvg := HX7.out
              clear hput hrun r4 r5 g5 g0 g1 c2
              obtain ⟨gk, cpk, hkvs, hgk, -, hgkl, -, hgkc, -⟩ := own_at (hR2.keys Ix hIx2) (by omega)
              obtain ⟨ga, cpa, -, hga, -, hgal, -, hgac, -⟩ := own_at hR2.row (by omega)
              obtain rfl : ga = ga0 := by rw [hga] at hvg; exact Option.some.inj hvg
              obtain ⟨aov, cpv, hvvs⟩ := own_slice (hR2.vals Ix jx hIx2 hj2)
              have r1 : X.cell? ⟨ga, Ix * 2 + 1, none⟩ = some (kv2 Ix) := by rw [hgac _ (by omega), pairs_1 _ _ _ _ hIx2]
              have r2 : X.cell? ⟨gk, jx * 2 + 1, none⟩ = some (vv2 Ix jx) := by rw [hgkc _ (by omega), pairs_1 _ _ _ _ hj2]
              have hs19 := HS13.out.chg hchX
              have r3 : X.cell? ⟨Bv, 0, none⟩ = some (.pointer (some ⟨m, 0, none⟩)) := by rw [cell_of_row X _ 0 _ _ _ hs19.pv]; rfl
              have hBvl : Bv < X.heap.size := lt_of_some hs19.pv
              have HEV3 := hide (HEV.out ⟨m, b, some ⟨b, 0, none⟩, ls⟩ i X.drew hs19.drew.fl HFO.out HIL.out (by simp only; rw [HLN.out]))
              have HVAL := hide (fun Wa W6 k' => St.val (Wa := Wa) (W6 := W6) (k' := k') (x := EV ls i) z1 z3 hvg hR2 hIx2 hj2 hgk)
              have hvn : (kat (sat (addKey Sx Ix (keyT tx)) Ix).ks jx).vs.length ≤ 2999999999993 := Nat.le_trans (z1.wf.vlen Ix jx hIx2 hj2) (by omega)
              have hbaseX : E.base ≤ X.heap.size := z1.lo.2.2.2.2
              obtain ⟨i9, hi9, hz90, hz91, hz92⟩ := info_parts Try.info9
              have HJX := hide (And.intro hkvs hvvs)
              have hjb : (jx : Int) < ((sat (addKey Sx Ix (keyT tx)) Ix).ks.length : Int) := by omega
              have hjb0 : (0 : Int) ≤ (jx : Int) := by omega
              generalize hkl1 : (sat (addKey Sx Ix (keyT tx)) Ix).ks.length = klen at hkvs hjb
              generalize hvl1 : (kat (sat (addKey Sx Ix (keyT tx)) Ix).ks jx).vs.length = vlen at hvvs hvn
              rw [hkvs] at r1
              rw [hvvs] at r2
              clear hgac hgkc
              refine round_region_L (S := fun w' => w'.cell? ⟨ga, Ix * 2 + 1, none⟩ = some (.slice (some ⟨gk, 0, none⟩) klen cpk) ∧ w'.cell? ⟨gk, jx * 2 + 1, none⟩ = some (.slice aov vlen cpv) ∧ w'.cell? ⟨Bv, 0, none⟩ = some (.pointer (some ⟨m, 0, none⟩))) 20 21 (by rfl) (by rfl) (by kernel_rfl) (fun ⟨a, w, h⟩ => h) ⟨r1, r2, r3⟩ (fun hS => ?_)
              refine anyL_takeD (some 82) (i := 0) (v := .pointer (some ⟨ga, Ix * 2, none⟩)) (by kernel_rfl) (by kernel_rfl) (by kernel_rfl) (by kernel_rfl) (fun o ho => ?_) (fun _ _ _ h => h) hS ?_
              · simp only [List.getElem?_toArray, List.getElem?_cons_succ, List.getElem?_cons_zero, Option.some.injEq] at ho; subst ho; refine ⟨rfl, Or.inl ⟨by rfl, ?_⟩⟩; intro w' hw'; obtain ⟨q1, q2, q3⟩ := hw'; go_simp
              simp only [Act.put, List.setIfInBounds_toArray, List.set_cons_zero, List.set_cons_succ]
              refine anyL_takeD (some 83) (i := 1) (v := .pointer (some ⟨ga, Ix * 2, none⟩)) (by kernel_rfl) (by kernel_rfl) (by kernel_rfl) (by kernel_rfl) (fun o ho => ?_) (fun _ _ _ h => h) hS ?_
              · simp only [List.getElem?_toArray, List.getElem?_cons_succ, List.getElem?_cons_zero, Option.some.injEq] at ho; subst ho; refine ⟨rfl, Or.inl ⟨by rfl, ?_⟩⟩; intro w' hw'; obtain ⟨q1, q2, q3⟩ := hw'; go_simp
              simp only [Act.put, List.setIfInBounds_toArray, List.set_cons_zero, List.set_cons_succ]
              refine anyL_takeD (some 84) (i := 2) (v := .pointer (some ⟨ga, Ix * 2 + 1, none⟩)) (by kernel_rfl) (by kernel_rfl) (by kernel_rfl) (by kernel_rfl) (fun o ho => ?_) (fun _ _ _ h => h) hS ?_
              · simp only [List.getElem?_toArray, List.getElem?_cons_succ, List.getElem?_cons_zero, Option.some.injEq] at ho; subst ho; refine ⟨rfl, Or.inl ⟨by rfl, ?_⟩⟩; intro w' hw'; obtain ⟨q1, q2, q3⟩ := hw'; go_simp
              simp only [Act.put, List.setIfInBounds_toArray, List.set_cons_zero, List.set_cons_succ]
              refine anyL_takeD (some 85) (i := 3) (v := .slice (some ⟨gk, 0, none⟩) klen cpk) (by kernel_rfl) (by kernel_rfl) (by kernel_rfl) (by kernel_rfl) (fun o ho => ?_) (fun _ _ _ h => h) hS ?_
              · simp only [List.getElem?_toArray, List.getElem?_cons_succ, List.getElem?_cons_zero, Option.some.injEq] at ho; subst ho; refine ⟨rfl, Or.inl ⟨by rfl, ?_⟩⟩; intro w' hw'; obtain ⟨q1, q2, q3⟩ := hw'; go_simp
              simp only [Act.put, List.setIfInBounds_toArray, List.set_cons_zero, List.set_cons_succ]
              refine anyL_takeD (some 86) (i := 4) (v := .int .i64 jx) (by kernel_rfl) (by kernel_rfl) (by kernel_rfl) (by kernel_rfl) (fun o ho => ?_) (fun _ _ _ h => h) hS ?_
              · simp only [List.getElem?_toArray, List.getElem?_cons_succ, List.getElem?_cons_zero, Option.some.injEq] at ho; subst ho; refine ⟨rfl, Or.inl ⟨by rfl, ?_⟩⟩; intro w' hw'; obtain ⟨q1, q2, q3⟩ := hw'; go_simp
              simp only [Act.put, List.setIfInBounds_toArray, List.set_cons_zero, List.set_cons_succ]
              refine anyL_takeD (some 87) (i := 5) (v := .pointer (some ⟨ga, Ix * 2, none⟩)) (by kernel_rfl) (by kernel_rfl) (by kernel_rfl) (by kernel_rfl) (fun o ho => ?_) (fun _ _ _ h => h) hS ?_
              · simp only [List.getElem?_toArray, List.getElem?_cons_succ, List.getElem?_cons_zero, Option.some.injEq] at ho; subst ho; refine ⟨rfl, Or.inl ⟨by rfl, ?_⟩⟩; intro w' hw'; obtain ⟨q1, q2, q3⟩ := hw'; go_simp
              simp only [Act.put, List.setIfInBounds_toArray, List.set_cons_zero, List.set_cons_succ]
              refine anyL_takeD (some 88) (i := 6) (v := .pointer (some ⟨ga, Ix * 2, none⟩)) (by kernel_rfl) (by kernel_rfl) (by kernel_rfl) (by kernel_rfl) (fun o ho => ?_) (fun _ _ _ h => h) hS ?_
              · simp only [List.getElem?_toArray, List.getElem?_cons_succ, List.getElem?_cons_zero, Option.some.injEq] at ho; subst ho; refine ⟨rfl, Or.inl ⟨by rfl, ?_⟩⟩; intro w' hw'; obtain ⟨q1, q2, q3⟩ := hw'; go_simp
              simp only [Act.put, List.setIfInBounds_toArray, List.set_cons_zero, List.set_cons_succ]
              refine anyL_takeD (some 89) (i := 7) (v := .pointer (some ⟨ga, Ix * 2 + 1, none⟩)) (by kernel_rfl) (by kernel_rfl) (by kernel_rfl) (by kernel_rfl) (fun o ho => ?_) (fun _ _ _ h => h) hS ?_
              · simp only [List.getElem?_toArray, List.getElem?_cons_succ, List.getElem?_cons_zero, Option.some.injEq] at ho; subst ho; refine ⟨rfl, Or.inl ⟨by rfl, ?_⟩⟩; intro w' hw'; obtain ⟨q1, q2, q3⟩ := hw'; go_simp
              simp only [Act.put, List.setIfInBounds_toArray, List.set_cons_zero, List.set_cons_succ]
              refine anyL_takeD (some 90) (i := 8) (v := .slice (some ⟨gk, 0, none⟩) klen cpk) (by kernel_rfl) (by kernel_rfl) (by kernel_rfl) (by kernel_rfl) (fun o ho => ?_) (fun _ _ _ h => h) hS ?_
              · simp only [List.getElem?_toArray, List.getElem?_cons_succ, List.getElem?_cons_zero, Option.some.injEq] at ho; subst ho; refine ⟨rfl, Or.inl ⟨by rfl, ?_⟩⟩; intro w' hw'; obtain ⟨q1, q2, q3⟩ := hw'; go_simp
              simp only [Act.put, List.setIfInBounds_toArray, List.set_cons_zero, List.set_cons_succ]
              refine anyL_takeD (some 91) (i := 9) (v := .int .i64 jx) (by kernel_rfl) (by kernel_rfl) (by kernel_rfl) (by kernel_rfl) (fun o ho => ?_) (fun _ _ _ h => h) hS ?_
              · simp only [List.getElem?_toArray, List.getElem?_cons_succ, List.getElem?_cons_zero, Option.some.injEq] at ho; subst ho; refine ⟨rfl, Or.inl ⟨by rfl, ?_⟩⟩; intro w' hw'; obtain ⟨q1, q2, q3⟩ := hw'; go_simp
              simp only [Act.put, List.setIfInBounds_toArray, List.set_cons_zero, List.set_cons_succ]
              refine anyL_takeD (some 92) (i := 10) (v := .pointer (some ⟨gk, jx * 2, none⟩)) (by kernel_rfl) (by kernel_rfl) (by kernel_rfl) (by kernel_rfl) (fun o ho => ?_) (fun _ _ _ h => h) hS ?_
              · simp only [List.getElem?_toArray, List.getElem?_cons_succ, List.getElem?_cons_zero, Option.some.injEq] at ho; subst ho; refine ⟨rfl, Or.inl ⟨by rfl, ?_⟩⟩; intro w' hw'; obtain ⟨q1, q2, q3⟩ := hw'; go_simp
              simp only [Act.put, List.setIfInBounds_toArray, List.set_cons_zero, List.set_cons_succ]
              refine anyL_takeD (some 93) (i := 11) (v := .pointer (some ⟨gk, jx * 2 + 1, none⟩)) (by kernel_rfl) (by kernel_rfl) (by kernel_rfl) (by kernel_rfl) (fun o ho => ?_) (fun _ _ _ h => h) hS ?_
              · simp only [List.getElem?_toArray, List.getElem?_cons_succ, List.getElem?_cons_zero, Option.some.injEq] at ho; subst ho; refine ⟨rfl, Or.inl ⟨by rfl, ?_⟩⟩; intro w' hw'; obtain ⟨q1, q2, q3⟩ := hw'; go_simp
              simp only [Act.put, List.setIfInBounds_toArray, List.set_cons_zero, List.set_cons_succ]
              refine anyL_takeD (some 94) (i := 12) (v := .slice aov vlen cpv) (by kernel_rfl) (by kernel_rfl) (by kernel_rfl) (by kernel_rfl) (fun o ho => ?_) (fun _ _ _ h => h) hS ?_
              · simp only [List.getElem?_toArray, List.getElem?_cons_succ, List.getElem?_cons_zero, Option.some.injEq] at ho; subst ho; refine ⟨rfl, Or.inl ⟨by rfl, ?_⟩⟩; intro w' hw'; obtain ⟨q1, q2, q3⟩ := hw'; go_simp
              simp only [Act.put, List.setIfInBounds_toArray, List.set_cons_zero, List.set_cons_succ]
              refine anyL_takeD (some 95) (i := 13) (v := .pointer (some ⟨m, 0, none⟩)) (by kernel_rfl) (by kernel_rfl) (by kernel_rfl) (by kernel_rfl) (fun o ho => ?_) (fun _ _ _ h => h) hS ?_
              · simp only [List.getElem?_toArray, List.getElem?_cons_succ, List.getElem?_cons_zero, Option.some.injEq] at ho; subst ho; refine ⟨rfl, Or.inl ⟨by rfl, ?_⟩⟩; intro w' hw'; obtain ⟨q1, q2, q3⟩ := hw'; go_simp
              simp only [Act.put, List.setIfInBounds_toArray, List.set_cons_zero, List.set_cons_succ]
              refine anyL_takeD (some 96) (i := 14) (v := .int .i64 i) (by kernel_rfl) (by kernel_rfl) (by kernel_rfl) (by kernel_rfl) (fun o ho => ?_) (fun _ _ _ h => h) hS ?_
              · simp only [List.getElem?_toArray, List.getElem?_cons_succ, List.getElem?_cons_zero, Option.some.injEq] at ho; subst ho; refine ⟨rfl, Or.inl ⟨by rfl, ?_⟩⟩; intro w' hw'; obtain ⟨q1, q2, q3⟩ := hw'; go_simp
              simp only [Act.put, List.setIfInBounds_toArray, List.set_cons_zero, List.set_cons_succ]
              refine anyL_oneD (i := 15) (by kernel_rfl) (of_decide_eq_true (by kernel_rfl)) (fun o ho K hK => ?_)
              simp only [List.getElem?_toArray, List.getElem?_cons_succ, List.getElem?_cons_zero, Option.some.injEq] at ho; subst ho
              rw [if_pos (by rfl)]
              go_simp
              refine HEV3.out.mono ?_
              rintro e W8 ⟨rfl, hb8⟩
              have hb8' : Below X.heap.size X W8 := ((Below.refl _ X).drew).trans hb8
              have hS8 : W8.cell? ⟨ga, Ix * 2 + 1, none⟩ = some (.slice (some ⟨gk, 0, none⟩) klen cpk) ∧ W8.cell? ⟨gk, jx * 2 + 1, none⟩ = some (.slice aov vlen cpv) ∧ W8.cell? ⟨Bv, 0, none⟩ = some (.pointer (some ⟨m, 0, none⟩)) := ⟨(hb8'.cell hgal).trans r1, (hb8'.cell hgkl).trans r2, (hb8'.cell hBvl).trans r3⟩
              refine hK.out _ _ (fun _ => hS8) ?_
              try simp only [Act.put, List.setIfInBounds_toArray, List.set_cons_zero, List.set_cons_succ]
              have hWa : Below X.heap.size X (W8.alloc (.cells #[.string (EV ls i)] 9)) := hb8'.alloc hb8'.size _
              have hSa : (W8.alloc (.cells #[.string (EV ls i)] 9)).cell? ⟨ga, Ix * 2 + 1, none⟩ = some (.slice (some ⟨gk, 0, none⟩) klen cpk) ∧ (W8.alloc (.cells #[.string (EV ls i)] 9)).cell? ⟨gk, jx * 2 + 1, none⟩ = some (.slice aov vlen cpv) ∧ (W8.alloc (.cells #[.string (EV ls i)] 9)).cell? ⟨Bv, 0, none⟩ = some (.pointer (some ⟨m, 0, none⟩)) := ⟨(hWa.cell hgal).trans r1, (hWa.cell hgkl).trans r2, (hWa.cell hBvl).trans r3⟩
              refine anyL_oneD (i := 16) (by kernel_rfl) (of_decide_eq_true (by kernel_rfl)) (fun o ho K hK => ?_)
              simp only [List.getElem?_toArray, List.getElem?_cons_succ, List.getElem?_cons_zero, Option.some.injEq] at ho; subst ho
              rw [if_pos (by rfl)]
              go_simp
              refine hK.out _ _ (fun _ => hSa) ?_
              try simp only [Act.put, List.setIfInBounds_toArray, List.set_cons_zero, List.set_cons_succ]
              have HVA := hide (HVAL.out (W8.alloc (.cells #[.string (EV ls i)] 9)))
              have hown8 := (HVA.out W8 (.bool true) hWa).1.vals Ix jx hIx2 hj2
              rw [hvl1, HJX.out.2, hvl1] at hown8
              refine anyL_oneD (i := 17) (by kernel_rfl) (of_decide_eq_true (by kernel_rfl)) (fun o ho K hK => ?_)
              simp only [List.getElem?_toArray, List.getElem?_cons_succ, List.getElem?_cons_zero, Option.some.injEq] at ho; subst ho
              refine step_append_lies _ (by rfl) _ _ _ (by rfl) E.base 9 i9 (.string ⟨#[]⟩) 1 16 Try.underlying76 hi9 hz90 hz91 hz92 (by rfl) (by omega) (.slice aov vlen cpv) vlen _ (by rfl) hown8 ⟨W8.heap.size, 0, none⟩ 1 1 [.string (EV ls i)] (by rfl) (by rfl) (cell_one_new _ _ _) (by simp [Value.oneCell']) (by omega) (by unfold maxLen; omega) (by omega) (by have := hWa.size; omega) (W8.heap.size + 1) (by simp) ?_
              intro g6 cap6 W6 hown6 hgr6 hat6 hlt6
              have hfin := (HVA.out W6 (.slice (some ⟨g6, 0, none⟩) (vlen + 1) cap6) hWa).2 (by rw [HJX.out.2, hvl1]; exact hgr6) (by rw [hvl1]; exact hown6) (by rw [HJX.out.2, hvl1]; exact hat6.elim (fun h => .inl h.symm) (fun h => .inr (by rw [h]; simp [Value.ownBlock])))
              obtain ⟨z1, z2, z3, z4, z5⟩ := hfin
              rw [HJX.out.1, hkl1] at z5
              rw [HJX.out.2, hvl1] at z3
              have z6 : W6.cell? ⟨Bv, 0, none⟩ = some (.pointer (some ⟨m, 0, none⟩)) := by rw [cell_of_row W6 _ 0 _ _ _ ((Chg.row (E := E) hgr6 hown8 (by simp [freeT])).cells _ _ _ _ ((hWa.block _ hBvl).trans hs19.pv) (by simp [freeT]))]; rfl
              refine hK.out _ _ (fun _ => ⟨z5, z3, z6⟩) ?_
              try simp only [Act.put, List.setIfInBounds_toArray, List.set_cons_zero, List.set_cons_succ]
              refine anyL_oneD (i := 18) (by kernel_rfl) (of_decide_eq_true (by kernel_rfl)) (fun o ho K hK => ?_)
              simp only [List.getElem?_toArray, List.getElem?_cons_succ, List.getElem?_cons_zero, Option.some.injEq] at ho; subst ho
              rw [if_pos (by rfl)]
              go_simp
              refine hK.out _ _ (fun _ => ⟨z5, z3, z6⟩) ?_
              try simp only [Act.put, List.setIfInBounds_toArray, List.set_cons_zero, List.set_cons_succ]
              refine anyL_takeD (some 101) (i := 19) (v := .pointer (some ⟨gk, jx * 2 + 1, none⟩)) (by kernel_rfl) (by kernel_rfl) (by kernel_rfl) (by kernel_rfl) (fun o ho => ?_) (fun _ _ _ h => h) ⟨z5, z3, z6⟩ ?_
              · simp only [List.getElem?_toArray, List.getElem?_cons_succ, List.getElem?_cons_zero, Option.some.injEq] at ho; subst ho; refine ⟨rfl, Or.inl ⟨by rfl, ?_⟩⟩; intro w' hw'; obtain ⟨q1, q2, q3⟩ := hw'; go_simp
              simp only [Act.put, List.setIfInBounds_toArray, List.set_cons_zero, List.set_cons_succ]
              have HP : Hid (roundPost W2.heap.size Kp (fun is W => St E (pre.length * 4194304 + 1 + is.length * 3) (foldE keyT EV ls nm (opH S ⟨nm, ph, pe⟩) is) W ∧ Chg E W1 W) (is ++ [i]) W3 .normal ⟨#[], []⟩ (W6.setCell ⟨gk, jx * 2 + 1, none⟩ (.slice (some ⟨g6, 0, none⟩) (vlen + 1) cap6))) := by
                have hcc := hchX.trans z2
                refine ⟨hcc.from (by omega) (by omega), hcc.kp, ?_, HCH3.out.trans hcc⟩
                rw [HFE.out, HQ3.out, hent]
                exact z1.mono (by omega)
              refine anyL_oneD (i := 20) (by kernel_rfl) (of_decide_eq_true (by kernel_rfl)) (fun o ho K hK => ?_)
              simp only [List.getElem?_toArray, List.getElem?_cons_succ, List.getElem?_cons_zero, Option.some.injEq] at ho; subst ho
              rw [if_pos (by rfl)]
              go_simp
              refine hK.out _ _ (fun h => absurd rfl h) ?_
              try simp only [Act.put, List.setIfInBounds_toArray, List.set_cons_zero, List.set_cons_succ]
              refine anyL_done (by kernel_rfl) ?_ _
              exact HP.out
          subst htm
          subst hKK
          simp only [List.setIfInBounds_toArray, List.set_cons_zero, List.set_cons_succ] at key
          refine round_region_L (S := S13 B1 Bs Bf Bx Bv nm ph pe ⟨m, b, some ⟨b, 0, none⟩, ls⟩) 17 18 (by rfl) (by rfl) (by kernel_rfl) (fun ⟨a, w, h⟩ => h) (HS13.out.drew) (fun hS => ?_)
          refine anyL_takeD (some 39) (i := 0) (v := .func (.func 37) #[] #[.pointer (some ⟨B1, 0, none⟩), .pointer (some ⟨Bs, 0, none⟩)]) (by kernel_rfl) (by kernel_rfl) (by kernel_rfl) (by kernel_rfl) (fun o ho => ?_) (fun _ _ _ h => h) hS ?_
          · simp only [List.getElem?_toArray, List.getElem?_cons_succ, List.getElem?_cons_zero, Option.some.injEq] at ho; subst ho; refine ⟨rfl, Or.inl ⟨by rfl, ?_⟩⟩; intro w' hw'; obtain ⟨q0, q1, q2, q3, q4, q5, q6⟩ := HC.out w' hw'; go_simp
          simp only [Act.put, List.setIfInBounds_toArray, List.set_cons_zero, List.set_cons_succ]
          refine anyL_takeD (some 40) (i := 1) (v := .pointer (some ⟨Bx, 0, none⟩)) (by kernel_rfl) (by kernel_rfl) (by kernel_rfl) (by kernel_rfl) (fun o ho => ?_) (fun _ _ _ h => h) hS ?_
          · simp only [List.getElem?_toArray, List.getElem?_cons_succ, List.getElem?_cons_zero, Option.some.injEq] at ho; subst ho; refine ⟨rfl, Or.inl ⟨by rfl, ?_⟩⟩; intro w' hw'; obtain ⟨q0, q1, q2, q3, q4, q5, q6⟩ := HC.out w' hw'; go_simp
          simp only [Act.put, List.setIfInBounds_toArray, List.set_cons_zero, List.set_cons_succ]
          refine anyL_takeD (some 41) (i := 2) (v := .string nm) (by kernel_rfl) (by kernel_rfl) (by kernel_rfl) (by kernel_rfl) (fun o ho => ?_) (fun _ _ _ h => h) hS ?_
          · simp only [List.getElem?_toArray, List.getElem?_cons_succ, List.getElem?_cons_zero, Option.some.injEq] at ho; subst ho; refine ⟨rfl, Or.inl ⟨by rfl, ?_⟩⟩; intro w' hw'; obtain ⟨q0, q1, q2, q3, q4, q5, q6⟩ := HC.out w' hw'; go_simp
          simp only [Act.put, List.setIfInBounds_toArray, List.set_cons_zero, List.set_cons_succ]
          refine anyL_takeD (some 43) (i := 4) (v := .pointer (some ⟨Bx, 0, none⟩)) (by kernel_rfl) (by kernel_rfl) (by kernel_rfl) (by kernel_rfl) (fun o ho => ?_) (fun _ _ _ h => h) hS ?_
          · simp only [List.getElem?_toArray, List.getElem?_cons_succ, List.getElem?_cons_zero, Option.some.injEq] at ho; subst ho; refine ⟨rfl, Or.inl ⟨by rfl, ?_⟩⟩; intro w' hw'; obtain ⟨q0, q1, q2, q3, q4, q5, q6⟩ := HC.out w' hw'; go_simp
          simp only [Act.put, List.setIfInBounds_toArray, List.set_cons_zero, List.set_cons_succ]
          refine anyL_takeD (some 44) (i := 5) (v := .string nm) (by kernel_rfl) (by kernel_rfl) (by kernel_rfl) (by kernel_rfl) (fun o ho => ?_) (fun _ _ _ h => h) hS ?_
          · simp only [List.getElem?_toArray, List.getElem?_cons_succ, List.getElem?_cons_zero, Option.some.injEq] at ho; subst ho; refine ⟨rfl, Or.inl ⟨by rfl, ?_⟩⟩; intro w' hw'; obtain ⟨q0, q1, q2, q3, q4, q5, q6⟩ := HC.out w' hw'; go_simp
          simp only [Act.put, List.setIfInBounds_toArray, List.set_cons_zero, List.set_cons_succ]
          refine anyL_takeD (some 45) (i := 6) (v := .pointer (some ⟨m, 0, none⟩)) (by kernel_rfl) (by kernel_rfl) (by kernel_rfl) (by kernel_rfl) (fun o ho => ?_) (fun _ _ _ h => h) hS ?_
          · simp only [List.getElem?_toArray, List.getElem?_cons_succ, List.getElem?_cons_zero, Option.some.injEq] at ho; subst ho; refine ⟨rfl, Or.inl ⟨by rfl, ?_⟩⟩; intro w' hw'; obtain ⟨q0, q1, q2, q3, q4, q5, q6⟩ := HC.out w' hw'; go_simp
          simp only [Act.put, List.setIfInBounds_toArray, List.set_cons_zero, List.set_cons_succ]
          refine anyL_takeD (some 46) (i := 7) (v := .pointer (some ⟨m, 0, none⟩)) (by kernel_rfl) (by kernel_rfl) (by kernel_rfl) (by kernel_rfl) (fun o ho => ?_) (fun _ _ _ h => h) hS ?_
          · simp only [List.getElem?_toArray, List.getElem?_cons_succ, List.getElem?_cons_zero, Option.some.injEq] at ho; subst ho; refine ⟨rfl, Or.inl ⟨by rfl, ?_⟩⟩; intro w' hw'; obtain ⟨q0, q1, q2, q3, q4, q5, q6⟩ := HC.out w' hw'; go_simp
          simp only [Act.put, List.setIfInBounds_toArray, List.set_cons_zero, List.set_cons_succ]
          refine anyL_takeD (some 47) (i := 8) (v := .pointer (some ⟨m, 1, none⟩)) (by kernel_rfl) (by kernel_rfl) (by kernel_rfl) (by kernel_rfl) (fun o ho => ?_) (fun _ _ _ h => h) hS ?_
          · simp only [List.getElem?_toArray, List.getElem?_cons_succ, List.getElem?_cons_zero, Option.some.injEq] at ho; subst ho; refine ⟨rfl, Or.inl ⟨by rfl, ?_⟩⟩; intro w' hw'; obtain ⟨q0, q1, q2, q3, q4, q5, q6⟩ := HC.out w' hw'; go_simp
          simp only [Act.put, List.setIfInBounds_toArray, List.set_cons_zero, List.set_cons_succ]
          refine anyL_takeD (some 48) (i := 9) (v := .slice (some ⟨b, 0, none⟩) ls.length ls.length) (by kernel_rfl) (by kernel_rfl) (by kernel_rfl) (by kernel_rfl) (fun o ho => ?_) (fun _ _ _ h => h) hS ?_
          · simp only [List.getElem?_toArray, List.getElem?_cons_succ, List.getElem?_cons_zero, Option.some.injEq] at ho; subst ho; refine ⟨rfl, Or.inl ⟨by rfl, ?_⟩⟩; intro w' hw'; obtain ⟨q0, q1, q2, q3, q4, q5, q6⟩ := HC.out w' hw'; go_simp
          simp only [Act.put, List.setIfInBounds_toArray, List.set_cons_zero, List.set_cons_succ]
          refine anyL_takeD (some 49) (i := 10) (v := .int .i64 i) (by kernel_rfl) (by kernel_rfl) (by kernel_rfl) (by kernel_rfl) (fun o ho => ?_) (fun _ _ _ h => h) hS ?_
          · simp only [List.getElem?_toArray, List.getElem?_cons_succ, List.getElem?_cons_zero, Option.some.injEq] at ho; subst ho; refine ⟨rfl, Or.inl ⟨by rfl, ?_⟩⟩; intro w' hw'; obtain ⟨q0, q1, q2, q3, q4, q5, q6⟩ := HC.out w' hw'; go_simp
          simp only [Act.put, List.setIfInBounds_toArray, List.set_cons_zero, List.set_cons_succ]
          refine anyL_takeD (some 50) (i := 11) (v := .pointer (some ⟨b, i * 3, none⟩)) (by kernel_rfl) (by kernel_rfl) (by kernel_rfl) (by kernel_rfl) (fun o ho => ?_) (fun _ _ _ h => h) hS ?_
          · simp only [List.getElem?_toArray, List.getElem?_cons_succ, List.getElem?_cons_zero, Option.some.injEq] at ho; subst ho; refine ⟨rfl, Or.inl ⟨by rfl, ?_⟩⟩; intro w' hw'; obtain ⟨q0, q1, q2, q3, q4, q5, q6⟩ := HC.out w' hw'; go_simp
          simp only [Act.put, List.setIfInBounds_toArray, List.set_cons_zero, List.set_cons_succ]
          refine anyL_takeD (some 51) (i := 12) (v := .agg #[.string tx, .int .u8 3, .int .u8 en]) (by kernel_rfl) (by kernel_rfl) (by kernel_rfl) (by kernel_rfl) (fun o ho => ?_) (fun _ _ _ h => h) hS ?_
          · simp only [List.getElem?_toArray, List.getElem?_cons_succ, List.getElem?_cons_zero, Option.some.injEq] at ho; subst ho; refine ⟨rfl, Or.inl ⟨by rfl, ?_⟩⟩; intro w' hw'; obtain ⟨q0, q1, q2, q3, q4, q5, q6⟩ := HC.out w' hw'; go_simp
          simp only [Act.put, List.setIfInBounds_toArray, List.set_cons_zero, List.set_cons_succ]
          have hW3E : E.w0.heap.size ≤ W3.heap.size := HST3.out.bl.size
          have hnmx : nm.size ≤ maxLen := Nat.le_trans HPO.out.nm (by unfold maxLen; omega)
          have HSEC3 := hide (section_any E Q3 S3 nm W3.drew HST3.out.drew hnmx (by omega))
          have HSEC3a := hide (section_any E Q3 S3 nm (W3.alloc (.cells #[.string ⟨#[]⟩, .string ⟨#[]⟩] 99)).drew (HST3.out.alloc _).drew hnmx (by omega))
          rw [HEB.out.1, HEB.out.2] at HSEC3 HSEC3a
          refine anyL_twoD (i := 3) (j := 15) (by kernel_rfl) (of_decide_eq_true (by kernel_rfl)) (of_decide_eq_true (by kernel_rfl)) (fun o ho K hK => ?_) (fun o ho K hK => ?_)
          · simp only [List.getElem?_toArray, List.getElem?_cons_succ, List.getElem?_cons_zero, Option.some.injEq] at ho; subst ho
            rw [if_pos (by rfl)]
            go_simp
            refine HSEC3.out.mono ?_
            rintro e W4 ⟨g4, rfl, hv4, hst4, hch4⟩
            have hs4 := S13.chg hS hch4
            refine hK.out _ _ (fun _ => hs4) ?_
            try simp only [Act.put, List.setIfInBounds_toArray, List.set_cons_zero, List.set_cons_succ]
            refine anyL_twoD (i := 13) (j := 15) (by kernel_rfl) (of_decide_eq_true (by kernel_rfl)) (of_decide_eq_true (by kernel_rfl)) (fun o ho K hK => ?_) (fun o ho K hK => ?_)
            · simp only [List.getElem?_toArray, List.getElem?_cons_succ, List.getElem?_cons_zero, Option.some.injEq] at ho; subst ho
              rw [if_pos (by rfl)]
              go_simp
              refine (HKEY.out.2 tx en _ htx).mono ?_
              rintro e W5 ⟨rfl, hb5⟩
              have hs5 := S13.below hs4 hb5
              refine hK.out _ _ (fun _ => hs5) ?_
              try simp only [Act.put, List.setIfInBounds_toArray, List.set_cons_zero, List.set_cons_succ]
              refine anyL_takeD (some 53) (i := 14) (v := .agg #[.string nm, .string (keyT tx)]) (by kernel_rfl) (by kernel_rfl) (by kernel_rfl) (by kernel_rfl) (fun o ho => ?_) (fun _ _ _ h => h) hs5 ?_
              · simp only [List.getElem?_toArray, List.getElem?_cons_succ, List.getElem?_cons_zero, Option.some.injEq] at ho; subst ho; refine ⟨rfl, Or.inl ⟨by rfl, ?_⟩⟩; intro w' hw'; go_simp
              simp only [Act.put, List.setIfInBounds_toArray, List.set_cons_zero, List.set_cons_succ]
              refine anyL_oneD (i := 15) (by kernel_rfl) (of_decide_eq_true (by kernel_rfl)) (fun o ho K hK => ?_)
              simp only [List.getElem?_toArray, List.getElem?_cons_succ, List.getElem?_cons_zero, Option.some.injEq] at ho; subst ho
              rw [if_pos (by rfl)]
              go_simp
              have hs6 := S13.alloc hs5 (.cells #[.string ⟨#[]⟩, .string ⟨#[]⟩] 99)
              refine hK.out _ _ (fun _ => hs6) ?_
              try simp only [Act.put, List.setIfInBounds_toArray, List.set_cons_zero, List.set_cons_succ]
              refine anyL_takeD (some 12) (i := 16) (v := .pointer (some ⟨g4, sidx (opn S3 nm) nm * 2, none⟩)) (by kernel_rfl) (by kernel_rfl) (by kernel_rfl) (by kernel_rfl) (fun o ho => ?_) (fun _ _ _ h => h) hs6 ?_
              · simp only [List.getElem?_toArray, List.getElem?_cons_succ, List.getElem?_cons_zero, Option.some.injEq] at ho; subst ho; refine ⟨rfl, Or.inl ⟨by rfl, ?_⟩⟩; intro w' hw'; go_simp
              simp only [Act.put, List.setIfInBounds_toArray, List.set_cons_zero, List.set_cons_succ]
              refine anyL_oneD (i := 17) (by kernel_rfl) (of_decide_eq_true (by kernel_rfl)) (fun o ho K hK => ?_)
              simp only [List.getElem?_toArray, List.getElem?_cons_succ, List.getElem?_cons_zero, Option.some.injEq] at ho; subst ho
              rw [if_pos (by rfl)]
              go_simp
              refine hK.out _ _ (fun h => absurd rfl h) ?_
              try simp only [Act.put, List.setIfInBounds_toArray, List.set_cons_zero, List.set_cons_succ]
              refine anyL_done (by kernel_rfl) ?_ _
              refine key _ _ _ _ _ _ _ _ _ _ _ _ _ _ _ _ _ _ ((hst4.below hb5).alloc _) (VG.stay (VG.stay hv4 (Stay.below hb5)) ((Stay.refl _ _).alloc _)) ((Chg.undrew (hch4.trans (Chg.below hb5))).alloc _) (heap_alloc_new _ _)
            · simp only [List.getElem?_toArray, List.getElem?_cons_succ, List.getElem?_cons_zero, Option.some.injEq] at ho; subst ho
              rw [if_pos (by rfl)]
              go_simp
              have hs4a := S13.alloc hs4 (.cells #[.string ⟨#[]⟩, .string ⟨#[]⟩] 99)
              refine hK.out _ _ (fun _ => hs4a) ?_
              try simp only [Act.put, List.setIfInBounds_toArray, List.set_cons_zero, List.set_cons_succ]
              refine anyL_oneD (i := 13) (by kernel_rfl) (of_decide_eq_true (by kernel_rfl)) (fun o ho K hK => ?_)
              simp only [List.getElem?_toArray, List.getElem?_cons_succ, List.getElem?_cons_zero, Option.some.injEq] at ho; subst ho
              rw [if_pos (by rfl)]
              go_simp
              refine (HKEY.out.2 tx en _ htx).mono ?_
              rintro e W5 ⟨rfl, hb5⟩
              have hs5 := S13.below hs4a hb5
              refine hK.out _ _ (fun _ => hs5) ?_
              try simp only [Act.put, List.setIfInBounds_toArray, List.set_cons_zero, List.set_cons_succ]
              refine anyL_takeD (some 53) (i := 14) (v := .agg #[.string nm, .string (keyT tx)]) (by kernel_rfl) (by kernel_rfl) (by kernel_rfl) (by kernel_rfl) (fun o ho => ?_) (fun _ _ _ h => h) hs5 ?_
              · simp only [List.getElem?_toArray, List.getElem?_cons_succ, List.getElem?_cons_zero, Option.some.injEq] at ho; subst ho; refine ⟨rfl, Or.inl ⟨by rfl, ?_⟩⟩; intro w' hw'; go_simp
              simp only [Act.put, List.setIfInBounds_toArray, List.set_cons_zero, List.set_cons_succ]
              refine anyL_takeD (some 12) (i := 16) (v := .pointer (some ⟨g4, sidx (opn S3 nm) nm * 2, none⟩)) (by kernel_rfl) (by kernel_rfl) (by kernel_rfl) (by kernel_rfl) (fun o ho => ?_) (fun _ _ _ h => h) hs5 ?_
              · simp only [List.getElem?_toArray, List.getElem?_cons_succ, List.getElem?_cons_zero, Option.some.injEq] at ho; subst ho; refine ⟨rfl, Or.inl ⟨by rfl, ?_⟩⟩; intro w' hw'; go_simp
              simp only [Act.put, List.setIfInBounds_toArray, List.set_cons_zero, List.set_cons_succ]
              have hG5 : W5.heap[W4.heap.size]? = some (.cells #[.string ⟨#[]⟩, .string ⟨#[]⟩] 99 (0, 0)) := (hb5.block _ (by simp)).trans (heap_alloc_new _ _)
              have cG0 : W5.cell? ⟨W4.heap.size, 0, none⟩ = some (.string ⟨#[]⟩) := by rw [cell_of_row W5 _ 0 _ _ _ hG5]; rfl
              have cG1 : W5.cell? ⟨W4.heap.size, 1, none⟩ = some (.string ⟨#[]⟩) := by rw [cell_of_row W5 _ 1 _ _ _ hG5]; rfl
              have fG0 : W5.frozen? ⟨W4.heap.size, 0, none⟩ = false := frozen_of_row W5 _ 0 _ _ hG5
              have fG1 : W5.frozen? ⟨W4.heap.size, 1, none⟩ = false := frozen_of_row W5 _ 1 _ _ hG5
              have HP := hide (put99 ((hst4.alloc _).below hb5) (VG.stay (VG.stay hv4 ((Stay.refl _ _).alloc _)) (Stay.below hb5)) (Chg.undrew ((hch4.alloc _).trans (Chg.below hb5))) hch4.size hW3E hG5 (.string nm) (.string (keyT tx)))
              clear hG5 hb5
              refine anyL_oneD (i := 17) (by kernel_rfl) (of_decide_eq_true (by kernel_rfl)) (fun o ho K hK => ?_)
              simp only [List.getElem?_toArray, List.getElem?_cons_succ, List.getElem?_cons_zero, Option.some.injEq] at ho; subst ho
              rw [if_pos (by rfl)]
              go_simp
              refine hK.out _ _ (fun h => absurd rfl h) ?_
              try simp only [Act.put, List.setIfInBounds_toArray, List.set_cons_zero, List.set_cons_succ]
              refine anyL_done (by kernel_rfl) ?_ _
              exact key _ _ _ _ _ _ _ _ _ _ _ _ _ _ _ _ _ _ HP.out.1 HP.out.2.1 HP.out.2.2.1 HP.out.2.2.2
          · simp only [List.getElem?_toArray, List.getElem?_cons_succ, List.getElem?_cons_zero, Option.some.injEq] at ho; subst ho
            rw [if_pos (by rfl)]
            go_simp
            have hSa := S13.alloc hS (.cells #[.string ⟨#[]⟩, .string ⟨#[]⟩] 99)
            refine hK.out _ _ (fun _ => hSa) ?_
            try simp only [Act.put, List.setIfInBounds_toArray, List.set_cons_zero, List.set_cons_succ]
            refine anyL_oneD (i := 3) (by kernel_rfl) (of_decide_eq_true (by kernel_rfl)) (fun o ho K hK => ?_)
            simp only [List.getElem?_toArray, List.getElem?_cons_succ, List.getElem?_cons_zero, Option.some.injEq] at ho; subst ho
            rw [if_pos (by rfl)]
            go_simp
            refine HSEC3a.out.mono ?_
            rintro e W4 ⟨g4, rfl, hv4, hst4, hch4⟩
            have hs4 := S13.chg hSa hch4
            refine hK.out _ _ (fun _ => hs4) ?_
            try simp only [Act.put, List.setIfInBounds_toArray, List.set_cons_zero, List.set_cons_succ]
            refine anyL_oneD (i := 13) (by kernel_rfl) (of_decide_eq_true (by kernel_rfl)) (fun o ho K hK => ?_)
            simp only [List.getElem?_toArray, List.getElem?_cons_succ, List.getElem?_cons_zero, Option.some.injEq] at ho; subst ho
            rw [if_pos (by rfl)]
            go_simp
            refine (HKEY.out.2 tx en _ htx).mono ?_
            rintro e W5 ⟨rfl, hb5⟩
            have hs5 := S13.below hs4 hb5
            refine hK.out _ _ (fun _ => hs5) ?_
            try simp only [Act.put, List.setIfInBounds_toArray, List.set_cons_zero, List.set_cons_succ]
            refine anyL_takeD (some 53) (i := 14) (v := .agg #[.string nm, .string (keyT tx)]) (by kernel_rfl) (by kernel_rfl) (by kernel_rfl) (by kernel_rfl) (fun o ho => ?_) (fun _ _ _ h => h) hs5 ?_
            · simp only [List.getElem?_toArray, List.getElem?_cons_succ, List.getElem?_cons_zero, Option.some.injEq] at ho; subst ho; refine ⟨rfl, Or.inl ⟨by rfl, ?_⟩⟩; intro w' hw'; go_simp
            simp only [Act.put, List.setIfInBounds_toArray, List.set_cons_zero, List.set_cons_succ]
            refine anyL_takeD (some 12) (i := 16) (v := .pointer (some ⟨g4, sidx (opn S3 nm) nm * 2, none⟩)) (by kernel_rfl) (by kernel_rfl) (by kernel_rfl) (by kernel_rfl) (fun o ho => ?_) (fun _ _ _ h => h) hs5 ?_
            · simp only [List.getElem?_toArray, List.getElem?_cons_succ, List.getElem?_cons_zero, Option.some.injEq] at ho; subst ho; refine ⟨rfl, Or.inl ⟨by rfl, ?_⟩⟩; intro w' hw'; go_simp
            simp only [Act.put, List.setIfInBounds_toArray, List.set_cons_zero, List.set_cons_succ]
            have hG5 : W5.heap[W3.heap.size]? = some (.cells #[.string ⟨#[]⟩, .string ⟨#[]⟩] 99 (0, 0)) := (hb5.block _ (Nat.lt_of_lt_of_le (by simp [World.drew]) hch4.size)).trans (hch4.cells _ _ _ _ (heap_alloc_new W3 (.cells #[.string ⟨#[]⟩, .string ⟨#[]⟩] 99)) (by simp [freeT]))
            have cG0 : W5.cell? ⟨W3.heap.size, 0, none⟩ = some (.string ⟨#[]⟩) := by rw [cell_of_row W5 _ 0 _ _ _ hG5]; rfl
            have cG1 : W5.cell? ⟨W3.heap.size, 1, none⟩ = some (.string ⟨#[]⟩) := by rw [cell_of_row W5 _ 1 _ _ _ hG5]; rfl
            have fG0 : W5.frozen? ⟨W3.heap.size, 0, none⟩ = false := frozen_of_row W5 _ 0 _ _ hG5
            have fG1 : W5.frozen? ⟨W3.heap.size, 1, none⟩ = false := frozen_of_row W5 _ 1 _ _ hG5
            have HP := hide (put99 (hst4.below hb5) (VG.stay hv4 (Stay.below hb5)) (((Chg.refl E W3).alloc (.cells #[.string ⟨#[]⟩, .string ⟨#[]⟩] 99)).trans (Chg.undrew (hch4.trans (Chg.below hb5)))) (Nat.le_refl _) hW3E hG5 (.string nm) (.string (keyT tx)))
            clear hG5 hb5
            refine anyL_oneD (i := 17) (by kernel_rfl) (of_decide_eq_true (by kernel_rfl)) (fun o ho K hK => ?_)
            simp only [List.getElem?_toArray, List.getElem?_cons_succ, List.getElem?_cons_zero, Option.some.injEq] at ho; subst ho
            rw [if_pos (by rfl)]
            go_simp
            refine hK.out _ _ (fun h => absurd rfl h) ?_
            try simp only [Act.put, List.setIfInBounds_toArray, List.set_cons_zero, List.set_cons_succ]
            refine anyL_done (by kernel_rfl) ?_ _
            exact key _ _ _ _ _ _ _ _ _ _ _ _ _ _ _ _ _ _ HP.out.1 HP.out.2.1 HP.out.2.2.1 HP.out.2.2.2
        case done2 =>
          rintro W3 ⟨hst3, hch3⟩
          have hen := entsOf_length HPO.out
          have hll := HFO.out.len
          have hq : pre.length * 4194304 + 1 + (entsOf f.ls ⟨nm, ph, pe⟩).length * 3 ≤ (pre.length + 1) * 4194304 := by
            rw [Nat.succ_mul]
            generalize (entsOf f.ls ⟨nm, ph, pe⟩).length = u at hen
            generalize pre.length * 4194304 = z
            clear hQ0
            omega
          have hc := HCH.out.trans hch3
          gi_wp2
          refine ⟨hc.from (by omega) (by omega), hc.kp, ?_⟩
          show St E ((pre ++ [(f, (⟨nm, ph, pe⟩ : Part))]).length * 4194304) (foldP kp keyT EV [] (pre ++ [(f, ⟨nm, ph, pe⟩)])) W3
          rw [HOH.out]
          exact hst3.mono (by rw [List.length_append, List.length_singleton]; exact hq)
      · have HI1 : Hid (St E (pre.length * 4194304 + 1) (opH S ⟨nm, ph, pe⟩) W) := HOS.out W (fun h => absurd h (by omega)) (fun _ => HI.out.mono (Nat.le_succ _))
        have HCH := hide (Chg.refl E W)
        have cv : W.cell? ⟨Bv, 0, none⟩ = some (.pointer (some ⟨f.m, 0, none⟩)) := by rw [cell_of_row W _ 0 _ _ _ HBV.out]; rfl
        have x2 : W.cell? ⟨Bx, 2, none⟩ = some (.int .i64 pe) := by rw [cell_of_row W _ 2 _ _ _ HBX.out]; rfl
        gi_wp2_with (first | (refine ⟨trivial, ?_⟩; gi_at_call 39; refine (CallsIn.inRound l (callsIn_wide.2 (ents_make _ _ _ _ _))).mono ?_; rintro e w' ⟨rfl, rfl⟩) | (refine ⟨trivial, ?_⟩; refine (CallsIn.inRound l (callsIn_wide.2 HKC.out)).mono ?_; rintro e w' ⟨rfl, hw⟩; have hw' := hw.symm; subst hw'))
        clear ck cfn HI HOS HKC HSEC eg
        obtain ⟨W1, rfl⟩ : ∃ W1, W1 = W := ⟨W, rfl⟩
        clear cv x0 x1 x2
        obtain ⟨W2, hW2⟩ : ∃ W2, (W1.alloc (.cells #[.pointer (some ⟨f.m, 0, none⟩)] 27)).alloc (.cells #[.string nm, .int .i64 ph, .int .i64 pe] 94) = W2 := ⟨_, rfl⟩
        have hpb : W2.heap[W1.heap.size + 1]? = some (.cells #[.string nm, .int .i64 ph, .int .i64 pe] 94 (0, 0)) := by
          rw [← hW2]; simpa using heap_alloc_new (W1.alloc (.cells #[.pointer (some ⟨f.m, 0, none⟩)] 27)) (.cells #[.string nm, .int .i64 ph, .int .i64 pe] 94)
        have hfb : W2.heap[W1.heap.size]? = some (.cells #[.pointer (some ⟨f.m, 0, none⟩)] 27 (0, 0)) := by
          rw [← hW2, Below.heap_alloc _ _ _ (by simp)]; exact heap_alloc_new _ _
        have hch2 : Chg E W1 W2 := by rw [← hW2]; exact ((Chg.refl _ _).alloc _).alloc _
        have hst2 : St E (pre.length * 4194304 + 1) (opH S ⟨nm, ph, pe⟩) W2 := by rw [← hW2]; exact (HI1.out.alloc _).alloc _
        have hsz2 : W1.heap.size ≤ W2.heap.size := hch2.size
        rw [hW2]
        clear hW2
        have hlt1 : E.M1 < W1.heap.size := HI1.out.lt1
        have hlt2 : E.M2 < W1.heap.size := HI1.out.lt2
        have hr2 := hch2.objs _ _ HR.out rfl (by have := HLL.out; omega) (by have := HLL.out; omega)
        have hfile : FileAt W2 f := HFA.out.below (by have := hst2.bl; rwa [hW0] at this)
        have hG2 := ents_gives 5 (by omega) (W1.heap.size + 1) W1.heap.size f ⟨nm, ph, pe⟩ W2 hfile hpb hfb HFO.out.len ⟨HPO.out.lo, HPO.out.lt, HPO.out.hi⟩
        refine rangeFunc_nestedT (n := 6) (F := Fence.wide.inRound l) AxI rfl hr2 (by omega) (gf := 51) (lb := #[.pointer (some ⟨W1.heap.size + 1, 0, none⟩), .pointer (some ⟨W1.heap.size, 0, none⟩)]) rfl trivial (enters_of Try.func51 (by kernel_rfl) rfl) (encs := encI) (own := ownN) (Kp := Kp) (xs := entsOf f.ls ⟨nm, ph, pe⟩) (w0 := W2) hG2
          (fun h k => h.trans k) (fun W l o o' h ho => Kp.putObj W l o o' h ho) (Below.refl _ _) (fun _ => rfl)
          (fun is W => St E (pre.length * 4194304 + 1 + is.length * 3) (foldE keyT EV f.ls nm (opH S ⟨nm, ph, pe⟩) is) W ∧ Chg E W1 W) ?bears2 ⟨by simpa [foldE] using hst2, hch2⟩ ?ax2 ?assign2 ?body2 ?done2
        case bears2 =>
          refine ⟨fun s W o h => ⟨h.1.alloc o, h.2.alloc o⟩, fun s W h => ⟨h.1.drew, h.2.drew⟩, fun s W r c t fr j v h hr hc ht => ht.elim, fun s W r o o' h hr hc ho => ⟨h.1.put hc ho (by omega) (by omega) o', h.2.put (by omega) o'⟩⟩
        case ax2 => exact fun tm x a' W r o o' h _ _ _ => h
        case assign2 =>
          rintro l2 is i W3 K hi hpi hK
          dsimp only [encI]
          gi_wp2
          refine hK _ _ (KeepsFrom.refl _ _) (Kp.refl _) hi ?_
          simp only [AxI, List.setIfInBounds_toArray, List.set_cons_zero, List.set_cons_succ]
        case body2 =>
          rintro l2 is i a2 W3 hl2 - ⟨hst3, hch3⟩ hax hpi
          unfold AxI at hax
          subst hax
          simp only [List.setIfInBounds_toArray, List.set_cons_zero, List.set_cons_succ]
          have him := entsOf_mem HPO.out (hpi.subset (show i ∈ is ++ [i] by simp))
          obtain ⟨hil, hik⟩ := him
          have hS13 : S13 B1 Bs Bf Bx Bv nm ph pe f W3 := ⟨by have := hst3.fnv; rw [HEd.out] at this; exact this, hch3.cells _ _ _ _ HBX.out (by simp [freeT]), hch3.cells _ _ _ _ HBV.out (by simp [freeT]), HFA.out.below (by have := hst3.bl; rwa [hW0] at this)⟩
          obtain ⟨m, b, ao, ls⟩ := f
          simp only at hil hik
          obtain ⟨tx, kd, en, hln⟩ : ∃ tx kd en, at' ls i = ⟨tx, kd, en⟩ := ⟨_, _, _, rfl⟩
          obtain rfl : kd = 3 := by rw [hln] at hik; exact hik
          obtain rfl : ao = some ⟨b, 0, none⟩ := hS13.fl.lies.ao (by simp only; omega)
          have hcells : ∀ w', S13 B1 Bs Bf Bx Bv nm ph pe ⟨m, b, some ⟨b, 0, none⟩, ls⟩ w' → _ := fun w' h => h.cells hil hln
          have htx : tx.size ≤ 1048576 := by have := HFO.out.txt i hil; simp only at this; rwa [hln] at this
          have hFE : foldE keyT EV ls nm (opH S ⟨nm, ph, pe⟩) (is ++ [i]) = ent (foldE keyT EV ls nm (opH S ⟨nm, ph, pe⟩) is) nm (keyT tx) (EV ls i) := by rw [foldE_snoc, hln]
          obtain ⟨S3, hS3⟩ : ∃ S3, foldE keyT EV ls nm (opH S ⟨nm, ph, pe⟩) is = S3 := ⟨_, rfl⟩
          rw [hS3] at hst3 hFE
          have hisl : is.length + 1 ≤ 1048576 + 1 := by
            have h1 := hpi.length_le
            have h2 := entsOf_length HPO.out
            have h3 := HFO.out.len
            simp only [List.length_append, List.length_singleton] at h1
            simp only at h2 h3
            omega
          obtain ⟨Q3, hQ3⟩ : ∃ Q3, pre.length * 4194304 + 1 + is.length * 3 = Q3 := ⟨_, rfl⟩
          have hQ3b : Q3 ≤ 2999999999990 := by
            have h1 : pre.length * 4194304 ≤ 2936008605696 := Nat.le_trans (Nat.mul_le_mul_right 4194304 (show pre.length ≤ 699999 by omega)) (Nat.le_of_ble_eq_true rfl)
            rw [← hQ3]
            generalize pre.length * 4194304 = z at h1
            clear hQ0
            omega
          rw [hQ3] at hst3
          have HQ3 : Hid (pre.length * 4194304 + 1 + (is ++ [i]).length * 3 = Q3 + 3) := by rw [Hid, ← hQ3, List.length_append, List.length_singleton, Nat.add_mul, Nat.one_mul, Nat.add_assoc (pre.length * 4194304 + 1)]
          have HFE := hide hFE
          have HLN := hide hln
          have HIL := hide hil
          have hib : (i : Int) < (ls.length : Int) := by omega
          have hib0 : (0 : Int) ≤ (i : Int) := by omega
          have hlsl : ls.length ≤ 1048576 := HFO.out.len
          clear hQ3 hS3 hFE hik hpi hG2 hG hE hfile hpb hfb hst2 hch2 hst
          have HC := hide hcells
          have HS13 := hide hS13
          have HST3 := hide hst3
          have HCH3 := hide hch3
          clear hcells hS13 hst3 hch3
          gi_wp2
          refine frame_seq (fun tm htm KK hKK => ?_)
          have key : ∀ (s39 s40 s41 s42 s43 s44 s45 s46 s47 s48 s49 s50 s51 s52 s53 : Value) (g G : Nat) (W4 : World), St E (Q3 + 1) (opn S3 nm) W4 → VG E g (opn S3 nm) W4 → Chg E W3 W4 → W4.heap[G]? = some (.cells #[.string nm, .string (keyT tx)] 99 (0, 0)) →
              KK { tmps := ((((((((((((((((tm.setIfInBounds 39 s39).setIfInBounds 40 s40).setIfInBounds 41 s41).setIfInBounds 42 s42).setIfInBounds 43 s43).setIfInBounds 44 s44).setIfInBounds 45 s45).setIfInBounds 46 s46).setIfInBounds 47 s47).setIfInBounds 48 s48).setIfInBounds 49 s49).setIfInBounds 50 s50).setIfInBounds 51 s51).setIfInBounds 52 s52).setIfInBounds 53 s53).setIfInBounds 13 (.pointer (some ⟨G, 0, none⟩))).setIfInBounds 12 (.pointer (some ⟨g, sidx (opn S3 nm) nm * 2, none⟩)), defers := [] } W4 := by
            intro s39 s40 s41 s42 s43 s44 s45 s46 s47 s48 s49 s50 s51 s52 s53 g4 G W4 hst4 hvg4 hch4 hG4
            subst htm
            subst hKK
            simp only [List.setIfInBounds_toArray, List.set_cons_zero, List.set_cons_succ]
            have hIx := sidx_opn S3 nm
            have hIn := sidx_hit hIx
            have hEN : ent S3 nm (keyT tx) (EV ls i) = addVal (opk (opn S3 nm) (sidx (opn S3 nm) nm) (keyT tx)) (sidx (opn S3 nm) nm) (kidx (sat (opk (opn S3 nm) (sidx (opn S3 nm) nm) (keyT tx)) (sidx (opn S3 nm) nm)).ks (keyT tx)) (EV ls i) := rfl
            generalize opn S3 nm = Sx at hst4 hvg4 hIx hIn hEN ⊢
            generalize sidx Sx nm = Ix at hIx hIn hEN ⊢
            obtain ⟨v, hv, hvg, kv, vv, φk, φv, hR⟩ := hvg4
            obtain ⟨L2, hm2, hL2⟩ := hst4.m2
            have hksz : (keyT tx).size ≤ maxLen := Nat.le_trans (HKEY.out.1 tx) (Nat.le_trans htx (by unfold maxLen; omega))
            obtain ⟨kl, hkl⟩ := key99 (s := nm) (t := keyT tx) (Nat.le_trans HPO.out.nm (by unfold maxLen; omega)) hksz
            have eB2 : E.B2 = B2 := by rw [HEd.out]
            have eM2 : E.M2 = M2 := by rw [HEd.out]
            have c2 : W4.cell? ⟨B2, 0, none⟩ = some (.map (some M2)) := by rw [← eB2, ← eM2, cell_of_row W4 _ 0 _ _ _ hst4.m2v]; rfl
            have g0 : W4.cell? ⟨G, 0, none⟩ = some (.string nm) := by rw [cell_of_row W4 _ 0 _ _ _ hG4]; rfl
            have g1 : W4.cell? ⟨G, 1, none⟩ = some (.string (keyT tx)) := by rw [cell_of_row W4 _ 1 _ _ _ hG4]; rfl
            have hlook := hm2.look keyed99 Try.underlying86 hkl
            have hmem : ∀ j : Int, (Value.agg #[.string nm, .string (keyT tx)], j) ∈ L2 → ∃ b : Nat, j = b ∧ b < (sat Sx Ix).ks.length ∧ (kat (sat Sx Ix).ks b).nm = keyT tx := fun j hj => by
              obtain ⟨a', b', ha, hb, hp⟩ := (hL2 _).1 hj
              obtain ⟨hp1, hp2⟩ := Prod.mk.inj hp
              simp only [Value.agg.injEq, Array.mk.injEq, List.cons.injEq, Value.string.injEq, and_true] at hp1
              obtain rfl : a' = Ix := hst4.wf.apart a' Ix ha hIx (by rw [← hp1.1, hIn])
              exact ⟨b', hp2, hb, hp1.2.symm⟩
            by_cases hf : kidx (sat Sx Ix).ks (keyT tx) < (sat Sx Ix).ks.length
            · have hkh := kidx_hit hf
              have hopk : opk Sx Ix (keyT tx) = Sx := by unfold opk; rw [if_pos hf]
              rw [hopk] at hEN
              generalize kidx (sat Sx Ix).ks (keyT tx) = jx at hf hkh hEN
              have hrun : (Instr.lookup 86 (.map (some M2)) (.agg #[.string nm, .string (keyT tx)]) true).run Try.prog W4 = .ok (.tuple #[.int .i64 jx, .bool true]) W4 := by
                rw [← eM2]
                rcases hlook with ⟨j, hj, hrun⟩ | ⟨hno, _⟩
                · obtain ⟨b', rfl, hb', hn'⟩ := hmem j hj
                  obtain rfl : b' = jx := hst4.wf.kapart Ix b' jx hIx hb' hf (by rw [hn', hkh])
                  exact hrun
                · exact absurd ((hL2 _).2 ⟨Ix, jx, hIx, hf, by rw [hIn, hkh]⟩) (hno _)
              have hent := hEN
              have hchX := hch4
              clear hlook hmem hL2 hm2 hkl hEN
              have HX1 := hide hst4
              have HX2 := hide hR
              have HX3 := hide hchX
              have HX4 := hide hv
              have HX5 := hide hent
              have HX6 := hide hG4
              clear hst4 hR hchX hv hent hch4 hG4
              gi_wp2
              have hchX := HX3.out
              have hent := HX5.out
              obtain ⟨gk, cpk, hkvs, hgk, -, hgkl, -, hgkc, -⟩ := own_at (HX2.out.keys Ix hIx) (by omega)
              obtain ⟨ga, cpa, -, hga, -, hgal, -, hgac, -⟩ := own_at HX2.out.row (by omega)
              obtain rfl : ga = g4 := by rw [hga] at hvg; exact Option.some.inj hvg
              obtain ⟨aov, cpv, hvvs⟩ := own_slice (HX2.out.vals Ix jx hIx hf)
              have r1 : W4.cell? ⟨ga, Ix * 2 + 1, none⟩ = some (kv Ix) := by rw [hgac _ (by omega), pairs_1 _ _ _ _ hIx]
              have r2 : W4.cell? ⟨gk, jx * 2 + 1, none⟩ = some (vv Ix jx) := by rw [hgkc _ (by omega), pairs_1 _ _ _ _ hf]
              have hs19 := HS13.out.chg hchX
              have r3 : W4.cell? ⟨Bv, 0, none⟩ = some (.pointer (some ⟨m, 0, none⟩)) := by rw [cell_of_row W4 _ 0 _ _ _ hs19.pv]; rfl
              have hBvl : Bv < W4.heap.size := lt_of_some hs19.pv
              have HEV3 := hide (HEV.out ⟨m, b, some ⟨b, 0, none⟩, ls⟩ i W4.drew hs19.drew.fl HFO.out HIL.out (by simp only; rw [HLN.out]))
              have HVAL := hide (fun Wa W6 k' => St.val (Wa := Wa) (W6 := W6) (k' := k') (x := EV ls i) HX1.out HX4.out hvg HX2.out hIx hf hgk)
              have hvn : (kat (sat Sx Ix).ks jx).vs.length ≤ 2999999999993 := Nat.le_trans (HX1.out.wf.vlen Ix jx hIx hf) (by omega)
              have hbaseX : E.base ≤ W4.heap.size := HX1.out.lo.2.2.2.2
              obtain ⟨i9, hi9, hz90, hz91, hz92⟩ := info_parts Try.info9
              have HJX := hide (And.intro hkvs hvvs)
              have hjb : (jx : Int) < ((sat Sx Ix).ks.length : Int) := by omega
              have hjb0 : (0 : Int) ≤ (jx : Int) := by omega
              generalize hkl1 : (sat Sx Ix).ks.length = klen at hkvs hjb
              generalize hvl1 : (kat (sat Sx Ix).ks jx).vs.length = vlen at hvvs hvn
              rw [hkvs] at r1
              rw [hvvs] at r2
              clear hgac hgkc
              refine round_region_L (S := fun w' => w'.cell? ⟨ga, Ix * 2 + 1, none⟩ = some (.slice (some ⟨gk, 0, none⟩) klen cpk) ∧ w'.cell? ⟨gk, jx * 2 + 1, none⟩ = some (.slice aov vlen cpv) ∧ w'.cell? ⟨Bv, 0, none⟩ = some (.pointer (some ⟨m, 0, none⟩))) 20 21 (by rfl) (by rfl) (by kernel_rfl) (fun ⟨a, w, h⟩ => h) ⟨r1, r2, r3⟩ (fun hS => ?_)
              refine anyL_takeD (some 82) (i := 0) (v := .pointer (some ⟨ga, Ix * 2, none⟩)) (by kernel_rfl) (by kernel_rfl) (by kernel_rfl) (by kernel_rfl) (fun o ho => ?_) (fun _ _ _ h => h) hS ?_
              · simp only [List.getElem?_toArray, List.getElem?_cons_succ, List.getElem?_cons_zero, Option.some.injEq] at ho; subst ho; refine ⟨rfl, Or.inl ⟨by rfl, ?_⟩⟩; intro w' hw'; obtain ⟨q1, q2, q3⟩ := hw'; go_simp
              simp only [Act.put, List.setIfInBounds_toArray, List.set_cons_zero, List.set_cons_succ]
              refine anyL_takeD (some 83) (i := 1) (v := .pointer (some ⟨ga, Ix * 2, none⟩)) (by kernel_rfl) (by kernel_rfl) (by kernel_rfl) (by kernel_rfl) (fun o ho => ?_) (fun _ _ _ h => h) hS ?_
              · simp only [List.getElem?_toArray, List.getElem?_cons_succ, List.getElem?_cons_zero, Option.some.injEq] at ho; subst ho; refine ⟨rfl, Or.inl ⟨by rfl, ?_⟩⟩; intro w' hw'; obtain ⟨q1, q2, q3⟩ := hw'; go_simp
              simp only [Act.put, List.setIfInBounds_toArray, List.set_cons_zero, List.set_cons_succ]
              refine anyL_takeD (some 84) (i := 2) (v := .pointer (some ⟨ga, Ix * 2 + 1, none⟩)) (by kernel_rfl) (by kernel_rfl) (by kernel_rfl) (by kernel_rfl) (fun o ho => ?_) (fun _ _ _ h => h) hS ?_
              · simp only [List.getElem?_toArray, List.getElem?_cons_succ, List.getElem?_cons_zero, Option.some.injEq] at ho; subst ho; refine ⟨rfl, Or.inl ⟨by rfl, ?_⟩⟩; intro w' hw'; obtain ⟨q1, q2, q3⟩ := hw'; go_simp
              simp only [Act.put, List.setIfInBounds_toArray, List.set_cons_zero, List.set_cons_succ]
              refine anyL_takeD (some 85) (i := 3) (v := .slice (some ⟨gk, 0, none⟩) klen cpk) (by kernel_rfl) (by kernel_rfl) (by kernel_rfl) (by kernel_rfl) (fun o ho => ?_) (fun _ _ _ h => h) hS ?_
              · simp only [List.getElem?_toArray, List.getElem?_cons_succ, List.getElem?_cons_zero, Option.some.injEq] at ho; subst ho; refine ⟨rfl, Or.inl ⟨by rfl, ?_⟩⟩; intro w' hw'; obtain ⟨q1, q2, q3⟩ := hw'; go_simp
              simp only [Act.put, List.setIfInBounds_toArray, List.set_cons_zero, List.set_cons_succ]
              refine anyL_takeD (some 86) (i := 4) (v := .int .i64 jx) (by kernel_rfl) (by kernel_rfl) (by kernel_rfl) (by kernel_rfl) (fun o ho => ?_) (fun _ _ _ h => h) hS ?_
              · simp only [List.getElem?_toArray, List.getElem?_cons_succ, List.getElem?_cons_zero, Option.some.injEq] at ho; subst ho; refine ⟨rfl, Or.inl ⟨by rfl, ?_⟩⟩; intro w' hw'; obtain ⟨q1, q2, q3⟩ := hw'; go_simp
              simp only [Act.put, List.setIfInBounds_toArray, List.set_cons_zero, List.set_cons_succ]
              refine anyL_takeD (some 87) (i := 5) (v := .pointer (some ⟨ga, Ix * 2, none⟩)) (by kernel_rfl) (by kernel_rfl) (by kernel_rfl) (by kernel_rfl) (fun o ho => ?_) (fun _ _ _ h => h) hS ?_
              · simp only [List.getElem?_toArray, List.getElem?_cons_succ, List.getElem?_cons_zero, Option.some.injEq] at ho; subst ho; refine ⟨rfl, Or.inl ⟨by rfl, ?_⟩⟩; intro w' hw'; obtain ⟨q1, q2, q3⟩ := hw'; go_simp
              simp only [Act.put, List.setIfInBounds_toArray, List.set_cons_zero, List.set_cons_succ]
              refine anyL_takeD (some 88) (i := 6) (v := .pointer (some ⟨ga, Ix * 2, none⟩)) (by kernel_rfl) (by kernel_rfl) (by kernel_rfl) (by kernel_rfl) (fun o ho => ?_) (fun _ _ _ h => h) hS ?_
              · simp only [List.getElem?_toArray, List.getElem?_cons_succ, List.getElem?_cons_zero, Option.some.injEq] at ho; subst ho; refine ⟨rfl, Or.inl ⟨by rfl, ?_⟩⟩; intro w' hw'; obtain ⟨q1, q2, q3⟩ := hw'; go_simp
              simp only [Act.put, List.setIfInBounds_toArray, List.set_cons_zero, List.set_cons_succ]
              refine anyL_takeD (some 89) (i := 7) (v := .pointer (some ⟨ga, Ix * 2 + 1, none⟩)) (by kernel_rfl) (by kernel_rfl) (by kernel_rfl) (by kernel_rfl) (fun o ho => ?_) (fun _ _ _ h => h) hS ?_
              · simp only [List.getElem?_toArray, List.getElem?_cons_succ, List.getElem?_cons_zero, Option.some.injEq] at ho; subst ho; refine ⟨rfl, Or.inl ⟨by rfl, ?_⟩⟩; intro w' hw'; obtain ⟨q1, q2, q3⟩ := hw'; go_simp
              simp only [Act.put, List.setIfInBounds_toArray, List.set_cons_zero, List.set_cons_succ]
              refine anyL_takeD (some 90) (i := 8) (v := .slice (some ⟨gk, 0, none⟩) klen cpk) (by kernel_rfl) (by kernel_rfl) (by kernel_rfl) (by kernel_rfl) (fun o ho => ?_) (fun _ _ _ h => h) hS ?_
              · simp only [List.getElem?_toArray, List.getElem?_cons_succ, List.getElem?_cons_zero, Option.some.injEq] at ho; subst ho; refine ⟨rfl, Or.inl ⟨by rfl, ?_⟩⟩; intro w' hw'; obtain ⟨q1, q2, q3⟩ := hw'; go_simp
              simp only [Act.put, List.setIfInBounds_toArray, List.set_cons_zero, List.set_cons_succ]
              refine anyL_takeD (some 91) (i := 9) (v := .int .i64 jx) (by kernel_rfl) (by kernel_rfl) (by kernel_rfl) (by kernel_rfl) (fun o ho => ?_) (fun _ _ _ h => h) hS ?_
              · simp only [List.getElem?_toArray, List.getElem?_cons_succ, List.getElem?_cons_zero, Option.some.injEq] at ho; subst ho; refine ⟨rfl, Or.inl ⟨by rfl, ?_⟩⟩; intro w' hw'; obtain ⟨q1, q2, q3⟩ := hw'; go_simp
              simp only [Act.put, List.setIfInBounds_toArray, List.set_cons_zero, List.set_cons_succ]
              refine anyL_takeD (some 92) (i := 10) (v := .pointer (some ⟨gk, jx * 2, none⟩)) (by kernel_rfl) (by kernel_rfl) (by kernel_rfl) (by kernel_rfl) (fun o ho => ?_) (fun _ _ _ h => h) hS ?_
              · simp only [List.getElem?_toArray, List.getElem?_cons_succ, List.getElem?_cons_zero, Option.some.injEq] at ho; subst ho; refine ⟨rfl, Or.inl ⟨by rfl, ?_⟩⟩; intro w' hw'; obtain ⟨q1, q2, q3⟩ := hw'; go_simp
              simp only [Act.put, List.setIfInBounds_toArray, List.set_cons_zero, List.set_cons_succ]
              refine anyL_takeD (some 93) (i := 11) (v := .pointer (some ⟨gk, jx * 2 + 1, none⟩)) (by kernel_rfl) (by kernel_rfl) (by kernel_rfl) (by kernel_rfl) (fun o ho => ?_) (fun _ _ _ h => h) hS ?_
              · simp only [List.getElem?_toArray, List.getElem?_cons_succ, List.getElem?_cons_zero, Option.some.injEq] at ho; subst ho; refine ⟨rfl, Or.inl ⟨by rfl, ?_⟩⟩; intro w' hw'; obtain ⟨q1, q2, q3⟩ := hw'; go_simp
              simp only [Act.put, List.setIfInBounds_toArray, List.set_cons_zero, List.set_cons_succ]
              refine anyL_takeD (some 94) (i := 12) (v := .slice aov vlen cpv) (by kernel_rfl) (by kernel_rfl) (by kernel_rfl) (by kernel_rfl) (fun o ho => ?_) (fun _ _ _ h => h) hS ?_
              · simp only [List.getElem?_toArray, List.getElem?_cons_succ, List.getElem?_cons_zero, Option.some.injEq] at ho; subst ho; refine ⟨rfl, Or.inl ⟨by rfl, ?_⟩⟩; intro w' hw'; obtain ⟨q1, q2, q3⟩ := hw'; go_simp
              simp only [Act.put, List.setIfInBounds_toArray, List.set_cons_zero, List.set_cons_succ]
              refine anyL_takeD (some 95) (i := 13) (v := .pointer (some ⟨m, 0, none⟩)) (by kernel_rfl) (by kernel_rfl) (by kernel_rfl) (by kernel_rfl) (fun o ho => ?_) (fun _ _ _ h => h) hS ?_
              · simp only [List.getElem?_toArray, List.getElem?_cons_succ, List.getElem?_cons_zero, Option.some.injEq] at ho; subst ho; refine ⟨rfl, Or.inl ⟨by rfl, ?_⟩⟩; intro w' hw'; obtain ⟨q1, q2, q3⟩ := hw'; go_simp
              simp only [Act.put, List.setIfInBounds_toArray, List.set_cons_zero, List.set_cons_succ]
              refine anyL_takeD (some 96) (i := 14) (v := .int .i64 i) (by kernel_rfl) (by kernel_rfl) (by kernel_rfl) (by kernel_rfl) (fun o ho => ?_) (fun _ _ _ h => h) hS ?_
              · simp only [List.getElem?_toArray, List.getElem?_cons_succ, List.getElem?_cons_zero, Option.some.injEq] at ho; subst ho; refine ⟨rfl, Or.inl ⟨by rfl, ?_⟩⟩; intro w' hw'; obtain ⟨q1, q2, q3⟩ := hw'; go_simp
              simp only [Act.put, List.setIfInBounds_toArray, List.set_cons_zero, List.set_cons_succ]
              refine anyL_oneD (i := 15) (by kernel_rfl) (of_decide_eq_true (by kernel_rfl)) (fun o ho K hK => ?_)
              simp only [List.getElem?_toArray, List.getElem?_cons_succ, List.getElem?_cons_zero, Option.some.injEq] at ho; subst ho
              rw [if_pos (by rfl)]
              go_simp
              refine HEV3.out.mono ?_
              rintro e W8 ⟨rfl, hb8⟩
              have hb8' : Below W4.heap.size W4 W8 := ((Below.refl _ W4).drew).trans hb8
              have hS8 : W8.cell? ⟨ga, Ix * 2 + 1, none⟩ = some (.slice (some ⟨gk, 0, none⟩) klen cpk) ∧ W8.cell? ⟨gk, jx * 2 + 1, none⟩ = some (.slice aov vlen cpv) ∧ W8.cell? ⟨Bv, 0, none⟩ = some (.pointer (some ⟨m, 0, none⟩)) := ⟨(hb8'.cell hgal).trans r1, (hb8'.cell hgkl).trans r2, (hb8'.cell hBvl).trans r3⟩
              refine hK.out _ _ (fun _ => hS8) ?_
              try simp only [Act.put, List.setIfInBounds_toArray, List.set_cons_zero, List.set_cons_succ]
              have hWa : Below W4.heap.size W4 (W8.alloc (.cells #[.string (EV ls i)] 9)) := hb8'.alloc hb8'.size _
              have hSa : (W8.alloc (.cells #[.string (EV ls i)] 9)).cell? ⟨ga, Ix * 2 + 1, none⟩ = some (.slice (some ⟨gk, 0, none⟩) klen cpk) ∧ (W8.alloc (.cells #[.string (EV ls i)] 9)).cell? ⟨gk, jx * 2 + 1, none⟩ = some (.slice aov vlen cpv) ∧ (W8.alloc (.cells #[.string (EV ls i)] 9)).cell? ⟨Bv, 0, none⟩ = some (.pointer (some ⟨m, 0, none⟩)) := ⟨(hWa.cell hgal).trans r1, (hWa.cell hgkl).trans r2, (hWa.cell hBvl).trans r3⟩
              refine anyL_oneD (i := 16) (by kernel_rfl) (of_decide_eq_true (by kernel_rfl)) (fun o ho K hK => ?_)
              simp only [List.getElem?_toArray, List.getElem?_cons_succ, List.getElem?_cons_zero, Option.some.injEq] at ho; subst ho
              rw [if_pos (by rfl)]
              go_simp
              refine hK.out _ _ (fun _ => hSa) ?_
              try simp only [Act.put, List.setIfInBounds_toArray, List.set_cons_zero, List.set_cons_succ]
              have HVA := hide (HVAL.out (W8.alloc (.cells #[.string (EV ls i)] 9)))
              have hown8 := (HVA.out W8 (.bool true) hWa).1.vals Ix jx hIx hf
              rw [hvl1, HJX.out.2, hvl1] at hown8
              refine anyL_oneD (i := 17) (by kernel_rfl) (of_decide_eq_true (by kernel_rfl)) (fun o ho K hK => ?_)
              simp only [List.getElem?_toArray, List.getElem?_cons_succ, List.getElem?_cons_zero, Option.some.injEq] at ho; subst ho
              refine step_append_lies _ (by rfl) _ _ _ (by rfl) E.base 9 i9 (.string ⟨#[]⟩) 1 16 Try.underlying76 hi9 hz90 hz91 hz92 (by rfl) (by omega) (.slice aov vlen cpv) vlen _ (by rfl) hown8 ⟨W8.heap.size, 0, none⟩ 1 1 [.string (EV ls i)] (by rfl) (by rfl) (cell_one_new _ _ _) (by simp [Value.oneCell']) (by omega) (by unfold maxLen; omega) (by omega) (by have := hWa.size; omega) (W8.heap.size + 1) (by simp) ?_
              intro g6 cap6 W6 hown6 hgr6 hat6 hlt6
              have hfin := (HVA.out W6 (.slice (some ⟨g6, 0, none⟩) (vlen + 1) cap6) hWa).2 (by rw [HJX.out.2, hvl1]; exact hgr6) (by rw [hvl1]; exact hown6) (by rw [HJX.out.2, hvl1]; exact hat6.elim (fun h => .inl h.symm) (fun h => .inr (by rw [h]; simp [Value.ownBlock])))
              obtain ⟨z1, z2, z3, z4, z5⟩ := hfin
              rw [HJX.out.1, hkl1] at z5
              rw [HJX.out.2, hvl1] at z3
              have z6 : W6.cell? ⟨Bv, 0, none⟩ = some (.pointer (some ⟨m, 0, none⟩)) := by rw [cell_of_row W6 _ 0 _ _ _ ((Chg.row (E := E) hgr6 hown8 (by simp [freeT])).cells _ _ _ _ ((hWa.block _ hBvl).trans hs19.pv) (by simp [freeT]))]; rfl
              refine hK.out _ _ (fun _ => ⟨z5, z3, z6⟩) ?_
              try simp only [Act.put, List.setIfInBounds_toArray, List.set_cons_zero, List.set_cons_succ]
              refine anyL_oneD (i := 18) (by kernel_rfl) (of_decide_eq_true (by kernel_rfl)) (fun o ho K hK => ?_)
              simp only [List.getElem?_toArray, List.getElem?_cons_succ, List.getElem?_cons_zero, Option.some.injEq] at ho; subst ho
              rw [if_pos (by rfl)]
              go_simp
              refine hK.out _ _ (fun _ => ⟨z5, z3, z6⟩) ?_
              try simp only [Act.put, List.setIfInBounds_toArray, List.set_cons_zero, List.set_cons_succ]
              refine anyL_takeD (some 101) (i := 19) (v := .pointer (some ⟨gk, jx * 2 + 1, none⟩)) (by kernel_rfl) (by kernel_rfl) (by kernel_rfl) (by kernel_rfl) (fun o ho => ?_) (fun _ _ _ h => h) ⟨z5, z3, z6⟩ ?_
              · simp only [List.getElem?_toArray, List.getElem?_cons_succ, List.getElem?_cons_zero, Option.some.injEq] at ho; subst ho; refine ⟨rfl, Or.inl ⟨by rfl, ?_⟩⟩; intro w' hw'; obtain ⟨q1, q2, q3⟩ := hw'; go_simp
              simp only [Act.put, List.setIfInBounds_toArray, List.set_cons_zero, List.set_cons_succ]
              have HP : Hid (roundPost W2.heap.size Kp (fun is W => St E (pre.length * 4194304 + 1 + is.length * 3) (foldE keyT EV ls nm (opH S ⟨nm, ph, pe⟩) is) W ∧ Chg E W1 W) (is ++ [i]) W3 .normal ⟨#[], []⟩ (W6.setCell ⟨gk, jx * 2 + 1, none⟩ (.slice (some ⟨g6, 0, none⟩) (vlen + 1) cap6))) := by
                have hcc := hchX.trans z2
                refine ⟨hcc.from (by omega) (by omega), hcc.kp, ?_, HCH3.out.trans hcc⟩
                rw [HFE.out, HQ3.out, hent]
                exact z1.mono (by omega)
              refine anyL_oneD (i := 20) (by kernel_rfl) (of_decide_eq_true (by kernel_rfl)) (fun o ho K hK => ?_)
              simp only [List.getElem?_toArray, List.getElem?_cons_succ, List.getElem?_cons_zero, Option.some.injEq] at ho; subst ho
              rw [if_pos (by rfl)]
              go_simp
              refine hK.out _ _ (fun h => absurd rfl h) ?_
              try simp only [Act.put, List.setIfInBounds_toArray, List.set_cons_zero, List.set_cons_succ]
              refine anyL_done (by kernel_rfl) ?_ _
              exact HP.out
            · have hno := kidx_none hf
              have hopk : opk Sx Ix (keyT tx) = addKey Sx Ix (keyT tx) := by unfold opk; rw [if_neg hf]
              have hsk : sat (addKey Sx Ix (keyT tx)) Ix = ⟨(sat Sx Ix).nm, (sat Sx Ix).ks ++ [⟨keyT tx, []⟩]⟩ := by unfold addKey; rw [sat_set_same hIx]
              have hkx : kidx (sat (addKey Sx Ix (keyT tx)) Ix).ks (keyT tx) = (sat Sx Ix).ks.length := by
                rw [hsk]
                exact kidx_eq (by simp) (by rw [kat_new]) (fun j hj => by rw [kat_app hj]; exact hno j hj)
              rw [hopk, hkx] at hEN
              have hnL : ∀ j : Int, (Value.agg #[.string nm, .string (keyT tx)], j) ∉ L2 := fun j hj => by obtain ⟨b', _, hb', hn'⟩ := hmem j hj; exact hno b' hb' hn'
              obtain ⟨W5, hput, hM5, hg5, hsz5⟩ := hm2.put keyed99 Try.underlying86 hkl hnL ((sat Sx Ix).ks.length : Int)
              have hrun : (Instr.lookup 86 (.map (some M2)) (.agg #[.string nm, .string (keyT tx)]) true).run Try.prog W4 = .ok (.tuple #[.int .i64 0, .bool false]) W4 := by
                rw [← eM2]
                rcases hlook with ⟨j, hj, _⟩ | ⟨_, hrun⟩
                · exact absurd hj (hnL j)
                · exact hrun
              rw [eM2] at hput
              have HKS := hide (fun Wa W6 k' => St.key (Wa := Wa) (W6 := W6) (k' := k') (key := keyT tx) hst4 hv hvg hR hIx hno hL2 (by rw [hIn]; exact hM5) hg5)
              obtain ⟨es5, cl5, hob5⟩ := hm2.obj
              have hst5 : Stay (fun _ => True) W4 W5 := Stay.grown hg5 hob5 (fun c t fr e => by cases e)
              obtain ⟨ga0, cpa0, -, hga0, -, hg4l0, -, hgac0, -⟩ := own_at hR.row (by omega)
              obtain rfl : ga0 = g4 := by rw [hga0] at hvg; exact Option.some.inj hvg
              obtain ⟨gc, hgc⟩ := own_type hR.row hga0
              have r4 : W4.cell? ⟨ga0, Ix * 2 + 1, none⟩ = some (kv Ix) := by rw [hgac0 _ (by omega), pairs_1 _ _ _ _ hIx]
              have r5 : W5.cell? ⟨ga0, Ix * 2 + 1, none⟩ = some (kv Ix) := by rw [← r4, cell_of_row W5 _ _ _ _ _ (hst5.same _ _ _ _ hgc trivial), cell_of_row W4 _ _ _ _ _ hgc]
              obtain ⟨aok, cpk0, hkvs0⟩ := own_slice (hR.keys Ix hIx)
              rw [hkvs0] at r4 r5
              have hG5 := hst5.same _ _ _ _ hG4 trivial
              have g5 : W5.cell? ⟨G, 1, none⟩ = some (.string (keyT tx)) := by rw [cell_of_row W5 _ 1 _ _ _ hG5]; rfl
              have hg4l : ga0 < W5.heap.size := lt_of_some (hst5.same _ _ _ _ hgc trivial)
              have hGl : G < W5.heap.size := lt_of_some hG5
              have hbase5 : E.base ≤ W5.heap.size := Nat.le_trans hst4.lo.2.2.2.2 hst5.size
              have hklb : (sat Sx Ix).ks.length ≤ 2999999999992 := Nat.le_trans (hst4.wf.klen Ix hIx) (by omega)
              have hjs : (sat (addKey Sx Ix (keyT tx)) Ix).ks.length = (sat Sx Ix).ks.length + 1 := by rw [hsk]; simp
              have hIx2 : Ix < (addKey Sx Ix (keyT tx)).length := by rw [addKey_len]; exact hIx
              obtain ⟨i78, hi78, hz780, hz781, hz782⟩ := info_parts Try.info78
              generalize hjx : (sat Sx Ix).ks.length = jx at hput r4 r5 hklb hjs hkvs0 hEN
              have HJ0 := hide (And.intro hjx hkvs0)
              have HX3 := hide hch4
              have HX5 := hide hEN
              have HX7 := hide hvg
              have HX8 := hide hG5
              clear hst4 hR hv hch4 hG4 hlook hmem hL2 hm2 hkl hEN hM5 hg5 hsz5 hnL hno hst5 hgc hob5 hgac0 hga0 hvg hG5 hjx hkvs0 hsk hkx hopk hf
              gi_wp2
              have hG5 := HX8.out
              refine round_region_L (S := fun w' => w'.cell? ⟨ga0, Ix * 2 + 1, none⟩ = some (.slice aok jx cpk0) ∧ w'.cell? ⟨G, 1, none⟩ = some (.string (keyT tx))) 12 13 (by rfl) (by rfl) (by kernel_rfl) (fun ⟨a, w, h⟩ => h) ⟨r5, g5⟩ (fun hS => ?_)
              refine anyL_takeD (some 70) (i := 0) (v := .pointer (some ⟨ga0, Ix * 2, none⟩)) (by kernel_rfl) (by kernel_rfl) (by kernel_rfl) (by kernel_rfl) (fun o ho => ?_) (fun _ _ _ h => h) hS ?_
              · simp only [List.getElem?_toArray, List.getElem?_cons_succ, List.getElem?_cons_zero, Option.some.injEq] at ho; subst ho; refine ⟨rfl, Or.inl ⟨by rfl, ?_⟩⟩; intro w' hw'; obtain ⟨q1, q2⟩ := hw'; go_simp
              simp only [Act.put, List.setIfInBounds_toArray, List.set_cons_zero, List.set_cons_succ]
              refine anyL_takeD (some 71) (i := 1) (v := .pointer (some ⟨ga0, Ix * 2, none⟩)) (by kernel_rfl) (by kernel_rfl) (by kernel_rfl) (by kernel_rfl) (fun o ho => ?_) (fun _ _ _ h => h) hS ?_
              · simp only [List.getElem?_toArray, List.getElem?_cons_succ, List.getElem?_cons_zero, Option.some.injEq] at ho; subst ho; refine ⟨rfl, Or.inl ⟨by rfl, ?_⟩⟩; intro w' hw'; obtain ⟨q1, q2⟩ := hw'; go_simp
              simp only [Act.put, List.setIfInBounds_toArray, List.set_cons_zero, List.set_cons_succ]
              refine anyL_takeD (some 72) (i := 2) (v := .pointer (some ⟨ga0, Ix * 2, none⟩)) (by kernel_rfl) (by kernel_rfl) (by kernel_rfl) (by kernel_rfl) (fun o ho => ?_) (fun _ _ _ h => h) hS ?_
              · simp only [List.getElem?_toArray, List.getElem?_cons_succ, List.getElem?_cons_zero, Option.some.injEq] at ho; subst ho; refine ⟨rfl, Or.inl ⟨by rfl, ?_⟩⟩; intro w' hw'; obtain ⟨q1, q2⟩ := hw'; go_simp
              simp only [Act.put, List.setIfInBounds_toArray, List.set_cons_zero, List.set_cons_succ]
              refine anyL_takeD (some 73) (i := 3) (v := .pointer (some ⟨ga0, Ix * 2 + 1, none⟩)) (by kernel_rfl) (by kernel_rfl) (by kernel_rfl) (by kernel_rfl) (fun o ho => ?_) (fun _ _ _ h => h) hS ?_
              · simp only [List.getElem?_toArray, List.getElem?_cons_succ, List.getElem?_cons_zero, Option.some.injEq] at ho; subst ho; refine ⟨rfl, Or.inl ⟨by rfl, ?_⟩⟩; intro w' hw'; obtain ⟨q1, q2⟩ := hw'; go_simp
              simp only [Act.put, List.setIfInBounds_toArray, List.set_cons_zero, List.set_cons_succ]
              refine anyL_takeD (some 74) (i := 4) (v := .slice aok jx cpk0) (by kernel_rfl) (by kernel_rfl) (by kernel_rfl) (by kernel_rfl) (fun o ho => ?_) (fun _ _ _ h => h) hS ?_
              · simp only [List.getElem?_toArray, List.getElem?_cons_succ, List.getElem?_cons_zero, Option.some.injEq] at ho; subst ho; refine ⟨rfl, Or.inl ⟨by rfl, ?_⟩⟩; intro w' hw'; obtain ⟨q1, q2⟩ := hw'; go_simp
              simp only [Act.put, List.setIfInBounds_toArray, List.set_cons_zero, List.set_cons_succ]
              refine anyL_takeD (some 75) (i := 5) (v := .pointer (some ⟨G, 1, none⟩)) (by kernel_rfl) (by kernel_rfl) (by kernel_rfl) (by kernel_rfl) (fun o ho => ?_) (fun _ _ _ h => h) hS ?_
              · simp only [List.getElem?_toArray, List.getElem?_cons_succ, List.getElem?_cons_zero, Option.some.injEq] at ho; subst ho; refine ⟨rfl, Or.inl ⟨by rfl, ?_⟩⟩; intro w' hw'; obtain ⟨q1, q2⟩ := hw'; go_simp
              simp only [Act.put, List.setIfInBounds_toArray, List.set_cons_zero, List.set_cons_succ]
              refine anyL_takeD (some 76) (i := 6) (v := .string (keyT tx)) (by kernel_rfl) (by kernel_rfl) (by kernel_rfl) (by kernel_rfl) (fun o ho => ?_) (fun _ _ _ h => h) hS ?_
              · simp only [List.getElem?_toArray, List.getElem?_cons_succ, List.getElem?_cons_zero, Option.some.injEq] at ho; subst ho; refine ⟨rfl, Or.inl ⟨by rfl, ?_⟩⟩; intro w' hw'; obtain ⟨q1, q2⟩ := hw'; go_simp
              simp only [Act.put, List.setIfInBounds_toArray, List.set_cons_zero, List.set_cons_succ]
              refine anyL_takeD (some 77) (i := 7) (v := .agg #[.string (keyT tx), .slice none 0 0]) (by kernel_rfl) (by kernel_rfl) (by kernel_rfl) (by kernel_rfl) (fun o ho => ?_) (fun _ _ _ h => h) hS ?_
              · simp only [List.getElem?_toArray, List.getElem?_cons_succ, List.getElem?_cons_zero, Option.some.injEq] at ho; subst ho; refine ⟨rfl, Or.inl ⟨by rfl, ?_⟩⟩; intro w' hw'; obtain ⟨q1, q2⟩ := hw'; go_simp
              simp only [Act.put, List.setIfInBounds_toArray, List.set_cons_zero, List.set_cons_succ]
              have hWa : Below W5.heap.size W5 (W5.alloc (.cells #[.string (keyT tx), .slice none 0 0] 78)).drew := ((Below.refl _ W5).alloc (Nat.le_refl _) _).drew
              have hSa : (W5.alloc (.cells #[.string (keyT tx), .slice none 0 0] 78)).drew.cell? ⟨ga0, Ix * 2 + 1, none⟩ = some (.slice aok jx cpk0) ∧ (W5.alloc (.cells #[.string (keyT tx), .slice none 0 0] 78)).drew.cell? ⟨G, 1, none⟩ = some (.string (keyT tx)) := ⟨(hWa.cell hg4l).trans r5, (hWa.cell hGl).trans g5⟩
              refine anyL_oneD (i := 8) (by kernel_rfl) (of_decide_eq_true (by kernel_rfl)) (fun o ho K hK => ?_)
              simp only [List.getElem?_toArray, List.getElem?_cons_succ, List.getElem?_cons_zero, Option.some.injEq] at ho; subst ho
              rw [if_pos (by rfl)]
              go_simp
              refine hK.out _ _ (fun _ => hSa) ?_
              try simp only [Act.put, List.setIfInBounds_toArray, List.set_cons_zero, List.set_cons_succ]
              have hown5 := (HKS.out (W5.alloc (.cells #[.string (keyT tx), .slice none 0 0] 78)).drew W5 (.bool true) hWa).1.keys Ix hIx
              rw [HJ0.out.1, HJ0.out.2] at hown5
              refine anyL_oneD (i := 9) (by kernel_rfl) (of_decide_eq_true (by kernel_rfl)) (fun o ho K hK => ?_)
              simp only [List.getElem?_toArray, List.getElem?_cons_succ, List.getElem?_cons_zero, Option.some.injEq] at ho; subst ho
              refine step_append_lies _ (by rfl) _ _ _ (by rfl) E.base 78 i78 (.agg #[.string ⟨#[]⟩, .slice none 0 0]) 2 40 Try.underlying70 hi78 hz780 hz781 hz782 (by rfl) (by omega) (.slice aok jx cpk0) jx _ (by rfl) hown5 ⟨W5.heap.size, 0, none⟩ 1 1 [.string (keyT tx), .slice none 0 0] (by rfl) (by rfl) (cell_two_new _ _ _ _) (by simp [Value.oneCell']) (by omega) (by unfold maxLen; omega) (by omega) (by have := hWa.size; omega) (W5.heap.size + 1) (by simp) ?_
              intro g6 cap6 W6 hown6 hgr6 hat6 hlt6
              have hfin := (HKS.out (W5.alloc (.cells #[.string (keyT tx), .slice none 0 0] 78)).drew W6 (.slice (some ⟨g6, 0, none⟩) (jx + 1) cap6) hWa).2 (by rw [HJ0.out.2]; exact hgr6) (by rw [HJ0.out.1]; exact hown6) (by rw [HJ0.out.2]; exact hat6.elim (fun h => .inl h.symm) (fun h => .inr (by rw [h]; simp [Value.ownBlock])))
              obtain ⟨z1, z2, z3, z4, z5, z6⟩ := hfin
              rw [HJ0.out.2] at z5
              have z7 : W6.cell? ⟨G, 1, none⟩ = some (.string (keyT tx)) := by rw [cell_of_row W6 _ 1 _ _ _ ((Chg.row (E := E) hgr6 hown5 (by simp [freeT])).cells _ _ _ _ ((hWa.block _ hGl).trans hG5) (by simp [freeT]))]; rfl
              refine hK.out _ _ (fun _ => ⟨z5, z7⟩) ?_
              try simp only [Act.put, List.setIfInBounds_toArray, List.set_cons_zero, List.set_cons_succ]
              refine anyL_oneD (i := 10) (by kernel_rfl) (of_decide_eq_true (by kernel_rfl)) (fun o ho K hK => ?_)
              simp only [List.getElem?_toArray, List.getElem?_cons_succ, List.getElem?_cons_zero, Option.some.injEq] at ho; subst ho
              rw [if_pos (by rfl)]
              go_simp
              refine hK.out _ _ (fun _ => ⟨z5, z7⟩) ?_
              try simp only [Act.put, List.setIfInBounds_toArray, List.set_cons_zero, List.set_cons_succ]
              refine anyL_takeD (some 81) (i := 11) (v := .pointer (some ⟨ga0, Ix * 2 + 1, none⟩)) (by kernel_rfl) (by kernel_rfl) (by kernel_rfl) (by kernel_rfl) (fun o ho => ?_) (fun _ _ _ h => h) ⟨z5, z7⟩ ?_
              · simp only [List.getElem?_toArray, List.getElem?_cons_succ, List.getElem?_cons_zero, Option.some.injEq] at ho; subst ho; refine ⟨rfl, Or.inl ⟨by rfl, ?_⟩⟩; intro w' hw'; obtain ⟨q1, q2⟩ := hw'; go_simp
              simp only [Act.put, List.setIfInBounds_toArray, List.set_cons_zero, List.set_cons_succ]
              refine anyL_oneD (i := 12) (by kernel_rfl) (of_decide_eq_true (by kernel_rfl)) (fun o ho K hK => ?_)
              simp only [List.getElem?_toArray, List.getElem?_cons_succ, List.getElem?_cons_zero, Option.some.injEq] at ho; subst ho
              rw [if_pos (by rfl)]
              go_simp
              refine hK.out _ _ (fun h => absurd rfl h) ?_
              try simp only [Act.put, List.setIfInBounds_toArray, List.set_cons_zero, List.set_cons_succ]
              have hchX := HX3.out.trans z2
              generalize W6.setCell ⟨ga0, Ix * 2 + 1, none⟩ (.slice (some ⟨g6, 0, none⟩) (jx + 1) cap6) = X at z1 z2 z3 z4 hchX ⊢
              clear z2 z5 z6 z7 hown6 hgr6 hat6 hlt6 hown5 hWa hSa hS hK
              refine anyL_done (by kernel_rfl) ?_ _
              gi_wp2
              obtain ⟨kv2, vv2, φk2, φv2, hR2⟩ := z4
              have hj2 : jx < (sat (addKey Sx Ix (keyT tx)) Ix).ks.length := by omega
              have hent := HX5.out
              have hvg := HX7.out
              clear hput hrun r4 r5 g5 g0 g1 c2
              obtain ⟨gk, cpk, hkvs, hgk, -, hgkl, -, hgkc, -⟩ := own_at (hR2.keys Ix hIx2) (by omega)
              obtain ⟨ga, cpa, -, hga, -, hgal, -, hgac, -⟩ := own_at hR2.row (by omega)
              obtain rfl : ga = ga0 := by rw [hga] at hvg; exact Option.some.inj hvg
              obtain ⟨aov, cpv, hvvs⟩ := own_slice (hR2.vals Ix jx hIx2 hj2)
              have r1 : X.cell? ⟨ga, Ix * 2 + 1, none⟩ = some (kv2 Ix) := by rw [hgac _ (by omega), pairs_1 _ _ _ _ hIx2]
              have r2 : X.cell? ⟨gk, jx * 2 + 1, none⟩ = some (vv2 Ix jx) := by rw [hgkc _ (by omega), pairs_1 _ _ _ _ hj2]
              have hs19 := HS13.out.chg hchX
              have r3 : X.cell? ⟨Bv, 0, none⟩ = some (.pointer (some ⟨m, 0, none⟩)) := by rw [cell_of_row X _ 0 _ _ _ hs19.pv]; rfl
              have hBvl : Bv < X.heap.size := lt_of_some hs19.pv
              have HEV3 := hide (HEV.out ⟨m, b, some ⟨b, 0, none⟩, ls⟩ i X.drew hs19.drew.fl HFO.out HIL.out (by simp only; rw [HLN.out]))
              have HVAL := hide (fun Wa W6 k' => St.val (Wa := Wa) (W6 := W6) (k' := k') (x := EV ls i) z1 z3 hvg hR2 hIx2 hj2 hgk)
              have hvn : (kat (sat (addKey Sx Ix (keyT tx)) Ix).ks jx).vs.length ≤ 2999999999993 := Nat.le_trans (z1.wf.vlen Ix jx hIx2 hj2) (by omega)
              have hbaseX : E.base ≤ X.heap.size := z1.lo.2.2.2.2
              obtain ⟨i9, hi9, hz90, hz91, hz92⟩ := info_parts Try.info9
              have HJX := hide (And.intro hkvs hvvs)
              have hjb : (jx : Int) < ((sat (addKey Sx Ix (keyT tx)) Ix).ks.length : Int) := by omega
              have hjb0 : (0 : Int) ≤ (jx : Int) := by omega
              generalize hkl1 : (sat (addKey Sx Ix (keyT tx)) Ix).ks.length = klen at hkvs hjb
              generalize hvl1 : (kat (sat (addKey Sx Ix (keyT tx)) Ix).ks jx).vs.length = vlen at hvvs hvn
              rw [hkvs] at r1
              rw [hvvs] at r2
              clear hgac hgkc
              refine round_region_L (S := fun w' => w'.cell? ⟨ga, Ix * 2 + 1, none⟩ = some (.slice (some ⟨gk, 0, none⟩) klen cpk) ∧ w'.cell? ⟨gk, jx * 2 + 1, none⟩ = some (.slice aov vlen cpv) ∧ w'.cell? ⟨Bv, 0, none⟩ = some (.pointer (some ⟨m, 0, none⟩))) 20 21 (by rfl) (by rfl) (by kernel_rfl) (fun ⟨a, w, h⟩ => h) ⟨r1, r2, r3⟩ (fun hS => ?_)
              refine anyL_takeD (some 82) (i := 0) (v := .pointer (some ⟨ga, Ix * 2, none⟩)) (by kernel_rfl) (by kernel_rfl) (by kernel_rfl) (by kernel_rfl) (fun o ho => ?_) (fun _ _ _ h => h) hS ?_
              · simp only [List.getElem?_toArray, List.getElem?_cons_succ, List.getElem?_cons_zero, Option.some.injEq] at ho; subst ho; refine ⟨rfl, Or.inl ⟨by rfl, ?_⟩⟩; intro w' hw'; obtain ⟨q1, q2, q3⟩ := hw'; go_simp
              simp only [Act.put, List.setIfInBounds_toArray, List.set_cons_zero, List.set_cons_succ]
              refine anyL_takeD (some 83) (i := 1) (v := .pointer (some ⟨ga, Ix * 2, none⟩)) (by kernel_rfl) (by kernel_rfl) (by kernel_rfl) (by kernel_rfl) (fun o ho => ?_) (fun _ _ _ h => h) hS ?_
              · simp only [List.getElem?_toArray, List.getElem?_cons_succ, List.getElem?_cons_zero, Option.some.injEq] at ho; subst ho; refine ⟨rfl, Or.inl ⟨by rfl, ?_⟩⟩; intro w' hw'; obtain ⟨q1, q2, q3⟩ := hw'; go_simp
              simp only [Act.put, List.setIfInBounds_toArray, List.set_cons_zero, List.set_cons_succ]
              refine anyL_takeD (some 84) (i := 2) (v := .pointer (some ⟨ga, Ix * 2 + 1, none⟩)) (by kernel_rfl) (by kernel_rfl) (by kernel_rfl) (by kernel_rfl) (fun o ho => ?_) (fun _ _ _ h => h) hS ?_
              · simp only [List.getElem?_toArray, List.getElem?_cons_succ, List.getElem?_cons_zero, Option.some.injEq] at ho; subst ho; refine ⟨rfl, Or.inl ⟨by rfl, ?_⟩⟩; intro w' hw'; obtain ⟨q1, q2, q3⟩ := hw'; go_simp
              simp only [Act.put, List.setIfInBounds_toArray, List.set_cons_zero, List.set_cons_succ]
              refine anyL_takeD (some 85) (i := 3) (v := .slice (some ⟨gk, 0, none⟩) klen cpk) (by kernel_rfl) (by kernel_rfl) (by kernel_rfl) (by kernel_rfl) (fun o ho => ?_) (fun _ _ _ h => h) hS ?_
              · simp only [List.getElem?_toArray, List.getElem?_cons_succ, List.getElem?_cons_zero, Option.some.injEq] at ho; subst ho; refine ⟨rfl, Or.inl ⟨by rfl, ?_⟩⟩; intro w' hw'; obtain ⟨q1, q2, q3⟩ := hw'; go_simp
              simp only [Act.put, List.setIfInBounds_toArray, List.set_cons_zero, List.set_cons_succ]
              refine anyL_takeD (some 86) (i := 4) (v := .int .i64 jx) (by kernel_rfl) (by kernel_rfl) (by kernel_rfl) (by kernel_rfl) (fun o ho => ?_) (fun _ _ _ h => h) hS ?_
              · simp only [List.getElem?_toArray, List.getElem?_cons_succ, List.getElem?_cons_zero, Option.some.injEq] at ho; subst ho; refine ⟨rfl, Or.inl ⟨by rfl, ?_⟩⟩; intro w' hw'; obtain ⟨q1, q2, q3⟩ := hw'; go_simp
              simp only [Act.put, List.setIfInBounds_toArray, List.set_cons_zero, List.set_cons_succ]
              refine anyL_takeD (some 87) (i := 5) (v := .pointer (some ⟨ga, Ix * 2, none⟩)) (by kernel_rfl) (by kernel_rfl) (by kernel_rfl) (by kernel_rfl) (fun o ho => ?_) (fun _ _ _ h => h) hS ?_
              · simp only [List.getElem?_toArray, List.getElem?_cons_succ, List.getElem?_cons_zero, Option.some.injEq] at ho; subst ho; refine ⟨rfl, Or.inl ⟨by rfl, ?_⟩⟩; intro w' hw'; obtain ⟨q1, q2, q3⟩ := hw'; go_simp
              simp only [Act.put, List.setIfInBounds_toArray, List.set_cons_zero, List.set_cons_succ]
              refine anyL_takeD (some 88) (i := 6) (v := .pointer (some ⟨ga, Ix * 2, none⟩)) (by kernel_rfl) (by kernel_rfl) (by kernel_rfl) (by kernel_rfl) (fun o ho => ?_) (fun _ _ _ h => h) hS ?_
              · simp only [List.getElem?_toArray, List.getElem?_cons_succ, List.getElem?_cons_zero, Option.some.injEq] at ho; subst ho; refine ⟨rfl, Or.inl ⟨by rfl, ?_⟩⟩; intro w' hw'; obtain ⟨q1, q2, q3⟩ := hw'; go_simp
              simp only [Act.put, List.setIfInBounds_toArray, List.set_cons_zero, List.set_cons_succ]
              refine anyL_takeD (some 89) (i := 7) (v := .pointer (some ⟨ga, Ix * 2 + 1, none⟩)) (by kernel_rfl) (by kernel_rfl) (by kernel_rfl) (by kernel_rfl) (fun o ho => ?_) (fun _ _ _ h => h) hS ?_
              · simp only [List.getElem?_toArray, List.getElem?_cons_succ, List.getElem?_cons_zero, Option.some.injEq] at ho; subst ho; refine ⟨rfl, Or.inl ⟨by rfl, ?_⟩⟩; intro w' hw'; obtain ⟨q1, q2, q3⟩ := hw'; go_simp
              simp only [Act.put, List.setIfInBounds_toArray, List.set_cons_zero, List.set_cons_succ]
              refine anyL_takeD (some 90) (i := 8) (v := .slice (some ⟨gk, 0, none⟩) klen cpk) (by kernel_rfl) (by kernel_rfl) (by kernel_rfl) (by kernel_rfl) (fun o ho => ?_) (fun _ _ _ h => h) hS ?_
              · simp only [List.getElem?_toArray, List.getElem?_cons_succ, List.getElem?_cons_zero, Option.some.injEq] at ho; subst ho; refine ⟨rfl, Or.inl ⟨by rfl, ?_⟩⟩; intro w' hw'; obtain ⟨q1, q2, q3⟩ := hw'; go_simp
              simp only [Act.put, List.setIfInBounds_toArray, List.set_cons_zero, List.set_cons_succ]
              refine anyL_takeD (some 91) (i := 9) (v := .int .i64 jx) (by kernel_rfl) (by kernel_rfl) (by kernel_rfl) (by kernel_rfl) (fun o ho => ?_) (fun _ _ _ h => h) hS ?_
              · simp only [List.getElem?_toArray, List.getElem?_cons_succ, List.getElem?_cons_zero, Option.some.injEq] at ho; subst ho; refine ⟨rfl, Or.inl ⟨by rfl, ?_⟩⟩; intro w' hw'; obtain ⟨q1, q2, q3⟩ := hw'; go_simp
              simp only [Act.put, List.setIfInBounds_toArray, List.set_cons_zero, List.set_cons_succ]
              refine anyL_takeD (some 92) (i := 10) (v := .pointer (some ⟨gk, jx * 2, none⟩)) (by kernel_rfl) (by kernel_rfl) (by kernel_rfl) (by kernel_rfl) (fun o ho => ?_) (fun _ _ _ h => h) hS ?_
              · simp only [List.getElem?_toArray, List.getElem?_cons_succ, List.getElem?_cons_zero, Option.some.injEq] at ho; subst ho; refine ⟨rfl, Or.inl ⟨by rfl, ?_⟩⟩; intro w' hw'; obtain ⟨q1, q2, q3⟩ := hw'; go_simp
              simp only [Act.put, List.setIfInBounds_toArray, List.set_cons_zero, List.set_cons_succ]
              refine anyL_takeD (some 93) (i := 11) (v := .pointer (some ⟨gk, jx * 2 + 1, none⟩)) (by kernel_rfl) (by kernel_rfl) (by kernel_rfl) (by kernel_rfl) (fun o ho => ?_) (fun _ _ _ h => h) hS ?_
              · simp only [List.getElem?_toArray, List.getElem?_cons_succ, List.getElem?_cons_zero, Option.some.injEq] at ho; subst ho; refine ⟨rfl, Or.inl ⟨by rfl, ?_⟩⟩; intro w' hw'; obtain ⟨q1, q2, q3⟩ := hw'; go_simp
              simp only [Act.put, List.setIfInBounds_toArray, List.set_cons_zero, List.set_cons_succ]
              refine anyL_takeD (some 94) (i := 12) (v := .slice aov vlen cpv) (by kernel_rfl) (by kernel_rfl) (by kernel_rfl) (by kernel_rfl) (fun o ho => ?_) (fun _ _ _ h => h) hS ?_
              · simp only [List.getElem?_toArray, List.getElem?_cons_succ, List.getElem?_cons_zero, Option.some.injEq] at ho; subst ho; refine ⟨rfl, Or.inl ⟨by rfl, ?_⟩⟩; intro w' hw'; obtain ⟨q1, q2, q3⟩ := hw'; go_simp
              simp only [Act.put, List.setIfInBounds_toArray, List.set_cons_zero, List.set_cons_succ]
              refine anyL_takeD (some 95) (i := 13) (v := .pointer (some ⟨m, 0, none⟩)) (by kernel_rfl) (by kernel_rfl) (by kernel_rfl) (by kernel_rfl) (fun o ho => ?_) (fun _ _ _ h => h) hS ?_
              · simp only [List.getElem?_toArray, List.getElem?_cons_succ, List.getElem?_cons_zero, Option.some.injEq] at ho; subst ho; refine ⟨rfl, Or.inl ⟨by rfl, ?_⟩⟩; intro w' hw'; obtain ⟨q1, q2, q3⟩ := hw'; go_simp
              simp only [Act.put, List.setIfInBounds_toArray, List.set_cons_zero, List.set_cons_succ]
              refine anyL_takeD (some 96) (i := 14) (v := .int .i64 i) (by kernel_rfl) (by kernel_rfl) (by kernel_rfl) (by kernel_rfl) (fun o ho => ?_) (fun _ _ _ h => h) hS ?_
              · simp only [List.getElem?_toArray, List.getElem?_cons_succ, List.getElem?_cons_zero, Option.some.injEq] at ho; subst ho; refine ⟨rfl, Or.inl ⟨by rfl, ?_⟩⟩; intro w' hw'; obtain ⟨q1, q2, q3⟩ := hw'; go_simp
              simp only [Act.put, List.setIfInBounds_toArray, List.set_cons_zero, List.set_cons_succ]
              refine anyL_oneD (i := 15) (by kernel_rfl) (of_decide_eq_true (by kernel_rfl)) (fun o ho K hK => ?_)
              simp only [List.getElem?_toArray, List.getElem?_cons_succ, List.getElem?_cons_zero, Option.some.injEq] at ho; subst ho
              rw [if_pos (by rfl)]
              go_simp
              refine HEV3.out.mono ?_
              rintro e W8 ⟨rfl, hb8⟩
              have hb8' : Below X.heap.size X W8 := ((Below.refl _ X).drew).trans hb8
              have hS8 : W8.cell? ⟨ga, Ix * 2 + 1, none⟩ = some (.slice (some ⟨gk, 0, none⟩) klen cpk) ∧ W8.cell? ⟨gk, jx * 2 + 1, none⟩ = some (.slice aov vlen cpv) ∧ W8.cell? ⟨Bv, 0, none⟩ = some (.pointer (some ⟨m, 0, none⟩)) := ⟨(hb8'.cell hgal).trans r1, (hb8'.cell hgkl).trans r2, (hb8'.cell hBvl).trans r3⟩
              refine hK.out _ _ (fun _ => hS8) ?_
              try simp only [Act.put, List.setIfInBounds_toArray, List.set_cons_zero, List.set_cons_succ]
              have hWa : Below X.heap.size X (W8.alloc (.cells #[.string (EV ls i)] 9)) := hb8'.alloc hb8'.size _
              have hSa : (W8.alloc (.cells #[.string (EV ls i)] 9)).cell? ⟨ga, Ix * 2 + 1, none⟩ = some (.slice (some ⟨gk, 0, none⟩) klen cpk) ∧ (W8.alloc (.cells #[.string (EV ls i)] 9)).cell? ⟨gk, jx * 2 + 1, none⟩ = some (.slice aov vlen cpv) ∧ (W8.alloc (.cells #[.string (EV ls i)] 9)).cell? ⟨Bv, 0, none⟩ = some (.pointer (some ⟨m, 0, none⟩)) := ⟨(hWa.cell hgal).trans r1, (hWa.cell hgkl).trans r2, (hWa.cell hBvl).trans r3⟩
              refine anyL_oneD (i := 16) (by kernel_rfl) (of_decide_eq_true (by kernel_rfl)) (fun o ho K hK => ?_)
              simp only [List.getElem?_toArray, List.getElem?_cons_succ, List.getElem?_cons_zero, Option.some.injEq] at ho; subst ho
              rw [if_pos (by rfl)]
              go_simp
              refine hK.out _ _ (fun _ => hSa) ?_
              try simp only [Act.put, List.setIfInBounds_toArray, List.set_cons_zero, List.set_cons_succ]
              have HVA := hide (HVAL.out (W8.alloc (.cells #[.string (EV ls i)] 9)))
              have hown8 := (HVA.out W8 (.bool true) hWa).1.vals Ix jx hIx2 hj2
              rw [hvl1, HJX.out.2, hvl1] at hown8
              refine anyL_oneD (i := 17) (by kernel_rfl) (of_decide_eq_true (by kernel_rfl)) (fun o ho K hK => ?_)
              simp only [List.getElem?_toArray, List.getElem?_cons_succ, List.getElem?_cons_zero, Option.some.injEq] at ho; subst ho
              refine step_append_lies _ (by rfl) _ _ _ (by rfl) E.base 9 i9 (.string ⟨#[]⟩) 1 16 Try.underlying76 hi9 hz90 hz91 hz92 (by rfl) (by omega) (.slice aov vlen cpv) vlen _ (by rfl) hown8 ⟨W8.heap.size, 0, none⟩ 1 1 [.string (EV ls i)] (by rfl) (by rfl) (cell_one_new _ _ _) (by simp [Value.oneCell']) (by omega) (by unfold maxLen; omega) (by omega) (by have := hWa.size; omega) (W8.heap.size + 1) (by simp) ?_
              intro g6 cap6 W6 hown6 hgr6 hat6 hlt6
              have hfin := (HVA.out W6 (.slice (some ⟨g6, 0, none⟩) (vlen + 1) cap6) hWa).2 (by rw [HJX.out.2, hvl1]; exact hgr6) (by rw [hvl1]; exact hown6) (by rw [HJX.out.2, hvl1]; exact hat6.elim (fun h => .inl h.symm) (fun h => .inr (by rw [h]; simp [Value.ownBlock])))
              obtain ⟨z1, z2, z3, z4, z5⟩ := hfin
              rw [HJX.out.1, hkl1] at z5
              rw [HJX.out.2, hvl1] at z3
              have z6 : W6.cell? ⟨Bv, 0, none⟩ = some (.pointer (some ⟨m, 0, none⟩)) := by rw [cell_of_row W6 _ 0 _ _ _ ((Chg.row (E := E) hgr6 hown8 (by simp [freeT])).cells _ _ _ _ ((hWa.block _ hBvl).trans hs19.pv) (by simp [freeT]))]; rfl
              refine hK.out _ _ (fun _ => ⟨z5, z3, z6⟩) ?_
              try simp only [Act.put, List.setIfInBounds_toArray, List.set_cons_zero, List.set_cons_succ]
              refine anyL_oneD (i := 18) (by kernel_rfl) (of_decide_eq_true (by kernel_rfl)) (fun o ho K hK => ?_)
              simp only [List.getElem?_toArray, List.getElem?_cons_succ, List.getElem?_cons_zero, Option.some.injEq] at ho; subst ho
              rw [if_pos (by rfl)]
              go_simp
              refine hK.out _ _ (fun _ => ⟨z5, z3, z6⟩) ?_
              try simp only [Act.put, List.setIfInBounds_toArray, List.set_cons_zero, List.set_cons_succ]
              refine anyL_takeD (some 101) (i := 19) (v := .pointer (some ⟨gk, jx * 2 + 1, none⟩)) (by kernel_rfl) (by kernel_rfl) (by kernel_rfl) (by kernel_rfl) (fun o ho => ?_) (fun _ _ _ h => h) ⟨z5, z3, z6⟩ ?_
              · simp only [List.getElem?_toArray, List.getElem?_cons_succ, List.getElem?_cons_zero, Option.some.injEq] at ho; subst ho; refine ⟨rfl, Or.inl ⟨by rfl, ?_⟩⟩; intro w' hw'; obtain ⟨q1, q2, q3⟩ := hw'; go_simp
              simp only [Act.put, List.setIfInBounds_toArray, List.set_cons_zero, List.set_cons_succ]
              have HP : Hid (roundPost W2.heap.size Kp (fun is W => St E (pre.length * 4194304 + 1 + is.length * 3) (foldE keyT EV ls nm (opH S ⟨nm, ph, pe⟩) is) W ∧ Chg E W1 W) (is ++ [i]) W3 .normal ⟨#[], []⟩ (W6.setCell ⟨gk, jx * 2 + 1, none⟩ (.slice (some ⟨g6, 0, none⟩) (vlen + 1) cap6))) := by
                have hcc := hchX.trans z2
                refine ⟨hcc.from (by omega) (by omega), hcc.kp, ?_, HCH3.out.trans hcc⟩
                rw [HFE.out, HQ3.out, hent]
                exact z1.mono (by omega)
              refine anyL_oneD (i := 20) (by kernel_rfl) (of_decide_eq_true (by kernel_rfl)) (fun o ho K hK => ?_)
              simp only [List.getElem?_toArray, List.getElem?_cons_succ, List.getElem?_cons_zero, Option.some.injEq] at ho; subst ho
              rw [if_pos (by rfl)]
              go_simp
              refine hK.out _ _ (fun h => absurd rfl h) ?_
              try simp only [Act.put, List.setIfInBounds_toArray, List.set_cons_zero, List.set_cons_succ]
              refine anyL_done (by kernel_rfl) ?_ _
              exact HP.out
          subst htm
          subst hKK
          simp only [List.setIfInBounds_toArray, List.set_cons_zero, List.set_cons_succ] at key
          refine round_region_L (S := S13 B1 Bs Bf Bx Bv nm ph pe ⟨m, b, some ⟨b, 0, none⟩, ls⟩) 17 18 (by rfl) (by rfl) (by kernel_rfl) (fun ⟨a, w, h⟩ => h) (HS13.out.drew) (fun hS => ?_)
          refine anyL_takeD (some 39) (i := 0) (v := .func (.func 37) #[] #[.pointer (some ⟨B1, 0, none⟩), .pointer (some ⟨Bs, 0, none⟩)]) (by kernel_rfl) (by kernel_rfl) (by kernel_rfl) (by kernel_rfl) (fun o ho => ?_) (fun _ _ _ h => h) hS ?_
          · simp only [List.getElem?_toArray, List.getElem?_cons_succ, List.getElem?_cons_zero, Option.some.injEq] at ho; subst ho; refine ⟨rfl, Or.inl ⟨by rfl, ?_⟩⟩; intro w' hw'; obtain ⟨q0, q1, q2, q3, q4, q5, q6⟩ := HC.out w' hw'; go_simp
          simp only [Act.put, List.setIfInBounds_toArray, List.set_cons_zero, List.set_cons_succ]
          refine anyL_takeD (some 40) (i := 1) (v := .pointer (some ⟨Bx, 0, none⟩)) (by kernel_rfl) (by kernel_rfl) (by kernel_rfl) (by kernel_rfl) (fun o ho => ?_) (fun _ _ _ h => h) hS ?_
          · simp only [List.getElem?_toArray, List.getElem?_cons_succ, List.getElem?_cons_zero, Option.some.injEq] at ho; subst ho; refine ⟨rfl, Or.inl ⟨by rfl, ?_⟩⟩; intro w' hw'; obtain ⟨q0, q1, q2, q3, q4, q5, q6⟩ := HC.out w' hw'; go_simp
          simp only [Act.put, List.setIfInBounds_toArray, List.set_cons_zero, List.set_cons_succ]
          refine anyL_takeD (some 41) (i := 2) (v := .string nm) (by kernel_rfl) (by kernel_rfl) (by kernel_rfl) (by kernel_rfl) (fun o ho => ?_) (fun _ _ _ h => h) hS ?_
          · simp only [List.getElem?_toArray, List.getElem?_cons_succ, List.getElem?_cons_zero, Option.some.injEq] at ho; subst ho; refine ⟨rfl, Or.inl ⟨by rfl, ?_⟩⟩; intro w' hw'; obtain ⟨q0, q1, q2, q3, q4, q5, q6⟩ := HC.out w' hw'; go_simp
          simp only [Act.put, List.setIfInBounds_toArray, List.set_cons_zero, List.set_cons_succ]
          refine anyL_takeD (some 43) (i := 4) (v := .pointer (some ⟨Bx, 0, none⟩)) (by kernel_rfl) (by kernel_rfl) (by kernel_rfl) (by kernel_rfl) (fun o ho => ?_) (fun _ _ _ h => h) hS ?_
          · simp only [List.getElem?_toArray, List.getElem?_cons_succ, List.getElem?_cons_zero, Option.some.injEq] at ho; subst ho; refine ⟨rfl, Or.inl ⟨by rfl, ?_⟩⟩; intro w' hw'; obtain ⟨q0, q1, q2, q3, q4, q5, q6⟩ := HC.out w' hw'; go_simp
          simp only [Act.put, List.setIfInBounds_toArray, List.set_cons_zero, List.set_cons_succ]
          refine anyL_takeD (some 44) (i := 5) (v := .string nm) (by kernel_rfl) (by kernel_rfl) (by kernel_rfl) (by kernel_rfl) (fun o ho => ?_) (fun _ _ _ h => h) hS ?_
          · simp only [List.getElem?_toArray, List.getElem?_cons_succ, List.getElem?_cons_zero, Option.some.injEq] at ho; subst ho; refine ⟨rfl, Or.inl ⟨by rfl, ?_⟩⟩; intro w' hw'; obtain ⟨q0, q1, q2, q3, q4, q5, q6⟩ := HC.out w' hw'; go_simp
          simp only [Act.put, List.setIfInBounds_toArray, List.set_cons_zero, List.set_cons_succ]
          refine anyL_takeD (some 45) (i := 6) (v := .pointer (some ⟨m, 0, none⟩)) (by kernel_rfl) (by kernel_rfl) (by kernel_rfl) (by kernel_rfl) (fun o ho => ?_) (fun _ _ _ h => h) hS ?_
          · simp only [List.getElem?_toArray, List.getElem?_cons_succ, List.getElem?_cons_zero, Option.some.injEq] at ho; subst ho; refine ⟨rfl, Or.inl ⟨by rfl, ?_⟩⟩; intro w' hw'; obtain ⟨q0, q1, q2, q3, q4, q5, q6⟩ := HC.out w' hw'; go_simp
          simp only [Act.put, List.setIfInBounds_toArray, List.set_cons_zero, List.set_cons_succ]
          refine anyL_takeD (some 46) (i := 7) (v := .pointer (some ⟨m, 0, none⟩)) (by kernel_rfl) (by kernel_rfl) (by kernel_rfl) (by kernel_rfl) (fun o ho => ?_) (fun _ _ _ h => h) hS ?_
          · simp only [List.getElem?_toArray, List.getElem?_cons_succ, List.getElem?_cons_zero, Option.some.injEq] at ho; subst ho; refine ⟨rfl, Or.inl ⟨by rfl, ?_⟩⟩; intro w' hw'; obtain ⟨q0, q1, q2, q3, q4, q5, q6⟩ := HC.out w' hw'; go_simp
          simp only [Act.put, List.setIfInBounds_toArray, List.set_cons_zero, List.set_cons_succ]
          refine anyL_takeD (some 47) (i := 8) (v := .pointer (some ⟨m, 1, none⟩)) (by kernel_rfl) (by kernel_rfl) (by kernel_rfl) (by kernel_rfl) (fun o ho => ?_) (fun _ _ _ h => h) hS ?_
          · simp only [List.getElem?_toArray, List.getElem?_cons_succ, List.getElem?_cons_zero, Option.some.injEq] at ho; subst ho; refine ⟨rfl, Or.inl ⟨by rfl, ?_⟩⟩; intro w' hw'; obtain ⟨q0, q1, q2, q3, q4, q5, q6⟩ := HC.out w' hw'; go_simp
          simp only [Act.put, List.setIfInBounds_toArray, List.set_cons_zero, List.set_cons_succ]
          refine anyL_takeD (some 48) (i := 9) (v := .slice (some ⟨b, 0, none⟩) ls.length ls.length) (by kernel_rfl) (by kernel_rfl) (by kernel_rfl) (by kernel_rfl) (fun o ho => ?_) (fun _ _ _ h => h) hS ?_
          · simp only [List.getElem?_toArray, List.getElem?_cons_succ, List.getElem?_cons_zero, Option.some.injEq] at ho; subst ho; refine ⟨rfl, Or.inl ⟨by rfl, ?_⟩⟩; intro w' hw'; obtain ⟨q0, q1, q2, q3, q4, q5, q6⟩ := HC.out w' hw'; go_simp
          simp only [Act.put, List.setIfInBounds_toArray, List.set_cons_zero, List.set_cons_succ]
          refine anyL_takeD (some 49) (i := 10) (v := .int .i64 i) (by kernel_rfl) (by kernel_rfl) (by kernel_rfl) (by kernel_rfl) (fun o ho => ?_) (fun _ _ _ h => h) hS ?_
          · simp only [List.getElem?_toArray, List.getElem?_cons_succ, List.getElem?_cons_zero, Option.some.injEq] at ho; subst ho; refine ⟨rfl, Or.inl ⟨by rfl, ?_⟩⟩; intro w' hw'; obtain ⟨q0, q1, q2, q3, q4, q5, q6⟩ := HC.out w' hw'; go_simp
          simp only [Act.put, List.setIfInBounds_toArray, List.set_cons_zero, List.set_cons_succ]
          refine anyL_takeD (some 50) (i := 11) (v := .pointer (some ⟨b, i * 3, none⟩)) (by kernel_rfl) (by kernel_rfl) (by kernel_rfl) (by kernel_rfl) (fun o ho => ?_) (fun _ _ _ h => h) hS ?_
          · simp only [List.getElem?_toArray, List.getElem?_cons_succ, List.getElem?_cons_zero, Option.some.injEq] at ho; subst ho; refine ⟨rfl, Or.inl ⟨by rfl, ?_⟩⟩; intro w' hw'; obtain ⟨q0, q1, q2, q3, q4, q5, q6⟩ := HC.out w' hw'; go_simp
          simp only [Act.put, List.setIfInBounds_toArray, List.set_cons_zero, List.set_cons_succ]
          refine anyL_takeD (some 51) (i := 12) (v := .agg #[.string tx, .int .u8 3, .int .u8 en]) (by kernel_rfl) (by kernel_rfl) (by kernel_rfl) (by kernel_rfl) (fun o ho => ?_) (fun _ _ _ h => h) hS ?_
          · simp only [List.getElem?_toArray, List.getElem?_cons_succ, List.getElem?_cons_zero, Option.some.injEq] at ho; subst ho; refine ⟨rfl, Or.inl ⟨by rfl, ?_⟩⟩; intro w' hw'; obtain ⟨q0, q1, q2, q3, q4, q5, q6⟩ := HC.out w' hw'; go_simp
          simp only [Act.put, List.setIfInBounds_toArray, List.set_cons_zero, List.set_cons_succ]
          have hW3E : E.w0.heap.size ≤ W3.heap.size := HST3.out.bl.size
          have hnmx : nm.size ≤ maxLen := Nat.le_trans HPO.out.nm (by unfold maxLen; omega)
          have HSEC3 := hide (section_any E Q3 S3 nm W3.drew HST3.out.drew hnmx (by omega))
          have HSEC3a := hide (section_any E Q3 S3 nm (W3.alloc (.cells #[.string ⟨#[]⟩, .string ⟨#[]⟩] 99)).drew (HST3.out.alloc _).drew hnmx (by omega))
          rw [HEB.out.1, HEB.out.2] at HSEC3 HSEC3a
          refine anyL_twoD (i := 3) (j := 15) (by kernel_rfl) (of_decide_eq_true (by kernel_rfl)) (of_decide_eq_true (by kernel_rfl)) (fun o ho K hK => ?_) (fun o ho K hK => ?_)
          · simp only [List.getElem?_toArray, List.getElem?_cons_succ, List.getElem?_cons_zero, Option.some.injEq] at ho; subst ho
            rw [if_pos (by rfl)]
            go_simp
            refine HSEC3.out.mono ?_
            rintro e W4 ⟨g4, rfl, hv4, hst4, hch4⟩
            have hs4 := S13.chg hS hch4
            refine hK.out _ _ (fun _ => hs4) ?_
            try simp only [Act.put, List.setIfInBounds_toArray, List.set_cons_zero, List.set_cons_succ]
            refine anyL_twoD (i := 13) (j := 15) (by kernel_rfl) (of_decide_eq_true (by kernel_rfl)) (of_decide_eq_true (by kernel_rfl)) (fun o ho K hK => ?_) (fun o ho K hK => ?_)
            · simp only [List.getElem?_toArray, List.getElem?_cons_succ, List.getElem?_cons_zero, Option.some.injEq] at ho; subst ho
              rw [if_pos (by rfl)]
              go_simp
              refine (HKEY.out.2 tx en _ htx).mono ?_
              rintro e W5 ⟨rfl, hb5⟩
              have hs5 := S13.below hs4 hb5
              refine hK.out _ _ (fun _ => hs5) ?_
              try simp only [Act.put, List.setIfInBounds_toArray, List.set_cons_zero, List.set_cons_succ]
              refine anyL_takeD (some 53) (i := 14) (v := .agg #[.string nm, .string (keyT tx)]) (by kernel_rfl) (by kernel_rfl) (by kernel_rfl) (by kernel_rfl) (fun o ho => ?_) (fun _ _ _ h => h) hs5 ?_
              · simp only [List.getElem?_toArray, List.getElem?_cons_succ, List.getElem?_cons_zero, Option.some.injEq] at ho; subst ho; refine ⟨rfl, Or.inl ⟨by rfl, ?_⟩⟩; intro w' hw'; go_simp
              simp only [Act.put, List.setIfInBounds_toArray, List.set_cons_zero, List.set_cons_succ]
              refine anyL_oneD (i := 15) (by kernel_rfl) (of_decide_eq_true (by kernel_rfl)) (fun o ho K hK => ?_)
              simp only [List.getElem?_toArray, List.getElem?_cons_succ, List.getElem?_cons_zero, Option.some.injEq] at ho; subst ho
              rw [if_pos (by rfl)]
              go_simp
              have hs6 := S13.alloc hs5 (.cells #[.string ⟨#[]⟩, .string ⟨#[]⟩] 99)
              refine hK.out _ _ (fun _ => hs6) ?_
              try simp only [Act.put, List.setIfInBounds_toArray, List.set_cons_zero, List.set_cons_succ]
              refine anyL_takeD (some 12) (i := 16) (v := .pointer (some ⟨g4, sidx (opn S3 nm) nm * 2, none⟩)) (by kernel_rfl) (by kernel_rfl) (by kernel_rfl) (by kernel_rfl) (fun o ho => ?_) (fun _ _ _ h => h) hs6 ?_
              · simp only [List.getElem?_toArray, List.getElem?_cons_succ, List.getElem?_cons_zero, Option.some.injEq] at ho; subst ho; refine ⟨rfl, Or.inl ⟨by rfl, ?_⟩⟩; intro w' hw'; go_simp
              simp only [Act.put, List.setIfInBounds_toArray, List.set_cons_zero, List.set_cons_succ]
              refine anyL_oneD (i := 17) (by kernel_rfl) (of_decide_eq_true (by kernel_rfl)) (fun o ho K hK => ?_)
              simp only [List.getElem?_toArray, List.getElem?_cons_succ, List.getElem?_cons_zero, Option.some.injEq] at ho; subst ho
              rw [if_pos (by rfl)]
              go_simp
              refine hK.out _ _ (fun h => absurd rfl h) ?_
              try simp only [Act.put, List.setIfInBounds_toArray, List.set_cons_zero, List.set_cons_succ]
              refine anyL_done (by kernel_rfl) ?_ _
              refine key _ _ _ _ _ _ _ _ _ _ _ _ _ _ _ _ _ _ ((hst4.below hb5).alloc _) (VG.stay (VG.stay hv4 (Stay.below hb5)) ((Stay.refl _ _).alloc _)) ((Chg.undrew (hch4.trans (Chg.below hb5))).alloc _) (heap_alloc_new _ _)
            · simp only [List.getElem?_toArray, List.getElem?_cons_succ, List.getElem?_cons_zero, Option.some.injEq] at ho; subst ho
              rw [if_pos (by rfl)]
              go_simp
              have hs4a := S13.alloc hs4 (.cells #[.string ⟨#[]⟩, .string ⟨#[]⟩] 99)
              refine hK.out _ _ (fun _ => hs4a) ?_
              try simp only [Act.put, List.setIfInBounds_toArray, List.set_cons_zero, List.set_cons_succ]
              refine anyL_oneD (i := 13) (by kernel_rfl) (of_decide_eq_true (by kernel_rfl)) (fun o ho K hK => ?_)
              simp only [List.getElem?_toArray, List.getElem?_cons_succ, List.getElem?_cons_zero, Option.some.injEq] at ho; subst ho
              rw [if_pos (by rfl)]
              go_simp
              refine (HKEY.out.2 tx en _ htx).mono ?_
              rintro e W5 ⟨rfl, hb5⟩
              have hs5 := S13.below hs4a hb5
              refine hK.out _ _ (fun _ => hs5) ?_
              try simp only [Act.put, List.setIfInBounds_toArray, List.set_cons_zero, List.set_cons_succ]
              refine anyL_takeD (some 53) (i := 14) (v := .agg #[.string nm, .string (keyT tx)]) (by kernel_rfl) (by kernel_rfl) (by kernel_rfl) (by kernel_rfl) (fun o ho => ?_) (fun _ _ _ h => h) hs5 ?_
              · simp only [List.getElem?_toArray, List.getElem?_cons_succ, List.getElem?_cons_zero, Option.some.injEq] at ho; subst ho; refine ⟨rfl, Or.inl ⟨by rfl, ?_⟩⟩; intro w' hw'; go_simp
              simp only [Act.put, List.setIfInBounds_toArray, List.set_cons_zero, List.set_cons_succ]
              refine anyL_takeD (some 12) (i := 16) (v := .pointer (some ⟨g4, sidx (opn S3 nm) nm * 2, none⟩)) (by kernel_rfl) (by kernel_rfl) (by kernel_rfl) (by kernel_rfl) (fun o ho => ?_) (fun _ _ _ h => h) hs5 ?_
              · simp only [List.getElem?_toArray, List.getElem?_cons_succ, List.getElem?_cons_zero, Option.some.injEq] at ho; subst ho; refine ⟨rfl, Or.inl ⟨by rfl, ?_⟩⟩; intro w' hw'; go_simp
              simp only [Act.put, List.setIfInBounds_toArray, List.set_cons_zero, List.set_cons_succ]
              have hG5 : W5.heap[W4.heap.size]? = some (.cells #[.string ⟨#[]⟩, .string ⟨#[]⟩] 99 (0, 0)) := (hb5.block _ (by simp)).trans (heap_alloc_new _ _)
              have cG0 : W5.cell? ⟨W4.heap.size, 0, none⟩ = some (.string ⟨#[]⟩) := by rw [cell_of_row W5 _ 0 _ _ _ hG5]; rfl
              have cG1 : W5.cell? ⟨W4.heap.size, 1, none⟩ = some (.string ⟨#[]⟩) := by rw [cell_of_row W5 _ 1 _ _ _ hG5]; rfl
              have fG0 : W5.frozen? ⟨W4.heap.size, 0, none⟩ = false := frozen_of_row W5 _ 0 _ _ hG5
              have fG1 : W5.frozen? ⟨W4.heap.size, 1, none⟩ = false := frozen_of_row W5 _ 1 _ _ hG5
              have HP := hide (put99 ((hst4.alloc _).below hb5) (VG.stay (VG.stay hv4 ((Stay.refl _ _).alloc _)) (Stay.below hb5)) (Chg.undrew ((hch4.alloc _).trans (Chg.below hb5))) hch4.size hW3E hG5 (.string nm) (.string (keyT tx)))
              clear hG5 hb5
              refine anyL_oneD (i := 17) (by kernel_rfl) (of_decide_eq_true (by kernel_rfl)) (fun o ho K hK => ?_)
              simp only [List.getElem?_toArray, List.getElem?_cons_succ, List.getElem?_cons_zero, Option.some.injEq] at ho; subst ho
              rw [if_pos (by rfl)]
              go_simp
              refine hK.out _ _ (fun h => absurd rfl h) ?_
              try simp only [Act.put, List.setIfInBounds_toArray, List.set_cons_zero, List.set_cons_succ]
              refine anyL_done (by kernel_rfl) ?_ _
              exact key _ _ _ _ _ _ _ _ _ _ _ _ _ _ _ _ _ _ HP.out.1 HP.out.2.1 HP.out.2.2.1 HP.out.2.2.2
          · simp only [List.getElem?_toArray, List.getElem?_cons_succ, List.getElem?_cons_zero, Option.some.injEq] at ho; subst ho
            rw [if_pos (by rfl)]
            go_simp
            have hSa := S13.alloc hS (.cells #[.string ⟨#[]⟩, .string ⟨#[]⟩] 99)
            refine hK.out _ _ (fun _ => hSa) ?_
            try simp only [Act.put, List.setIfInBounds_toArray, List.set_cons_zero, List.set_cons_succ]
            refine anyL_oneD (i := 3) (by kernel_rfl) (of_decide_eq_true (by kernel_rfl)) (fun o ho K hK => ?_)
            simp only [List.getElem?_toArray, List.getElem?_cons_succ, List.getElem?_cons_zero, Option.some.injEq] at ho; subst ho
            rw [if_pos (by rfl)]
            go_simp
            refine HSEC3a.out.mono ?_
            rintro e W4 ⟨g4, rfl, hv4, hst4, hch4⟩
            have hs4 := S13.chg hSa hch4
            refine hK.out _ _ (fun _ => hs4) ?_
            try simp only [Act.put, List.setIfInBounds_toArray, List.set_cons_zero, List.set_cons_succ]
            refine anyL_oneD (i := 13) (by kernel_rfl) (of_decide_eq_true (by kernel_rfl)) (fun o ho K hK => ?_)
            simp only [List.getElem?_toArray, List.getElem?_cons_succ, List.getElem?_cons_zero, Option.some.injEq] at ho; subst ho
            rw [if_pos (by rfl)]
            go_simp
            refine (HKEY.out.2 tx en _ htx).mono ?_
            rintro e W5 ⟨rfl, hb5⟩
            have hs5 := S13.below hs4 hb5
            refine hK.out _ _ (fun _ => hs5) ?_
            try simp only [Act.put, List.setIfInBounds_toArray, List.set_cons_zero, List.set_cons_succ]
            refine anyL_takeD (some 53) (i := 14) (v := .agg #[.string nm, .string (keyT tx)]) (by kernel_rfl) (by kernel_rfl) (by kernel_rfl) (by kernel_rfl) (fun o ho => ?_) (fun _ _ _ h => h) hs5 ?_
            · simp only [List.getElem?_toArray, List.getElem?_cons_succ, List.getElem?_cons_zero, Option.some.injEq] at ho; subst ho; refine ⟨rfl, Or.inl ⟨by rfl, ?_⟩⟩; intro w' hw'; go_simp
            simp only [Act.put, List.setIfInBounds_toArray, List.set_cons_zero, List.set_cons_succ]
            refine anyL_takeD (some 12) (i := 16) (v := .pointer (some ⟨g4, sidx (opn S3 nm) nm * 2, none⟩)) (by kernel_rfl) (by kernel_rfl) (by kernel_rfl) (by kernel_rfl) (fun o ho => ?_) (fun _ _ _ h => h) hs5 ?_
            · simp only [List.getElem?_toArray, List.getElem?_cons_succ, List.getElem?_cons_zero, Option.some.injEq] at ho; subst ho; refine ⟨rfl, Or.inl ⟨by rfl, ?_⟩⟩; intro w' hw'; go_simp
            simp only [Act.put, List.setIfInBounds_toArray, List.set_cons_zero, List.set_cons_succ]
            have hG5 : W5.heap[W3.heap.size]? = some (.cells #[.string ⟨#[]⟩, .string ⟨#[]⟩] 99 (0, 0)) := (hb5.block _ (Nat.lt_of_lt_of_le (by simp [World.drew]) hch4.size)).trans (hch4.cells _ _ _ _ (heap_alloc_new W3 (.cells #[.string ⟨#[]⟩, .string ⟨#[]⟩] 99)) (by simp [freeT]))
            have cG0 : W5.cell? ⟨W3.heap.size, 0, none⟩ = some (.string ⟨#[]⟩) := by rw [cell_of_row W5 _ 0 _ _ _ hG5]; rfl
            have cG1 : W5.cell? ⟨W3.heap.size, 1, none⟩ = some (.string ⟨#[]⟩) := by rw [cell_of_row W5 _ 1 _ _ _ hG5]; rfl
            have fG0 : W5.frozen? ⟨W3.heap.size, 0, none⟩ = false := frozen_of_row W5 _ 0 _ _ hG5
            have fG1 : W5.frozen? ⟨W3.heap.size, 1, none⟩ = false := frozen_of_row W5 _ 1 _ _ hG5
            have HP := hide (put99 (hst4.below hb5) (VG.stay hv4 (Stay.below hb5)) (((Chg.refl E W3).alloc (.cells #[.string ⟨#[]⟩, .string ⟨#[]⟩] 99)).trans (Chg.undrew (hch4.trans (Chg.below hb5)))) (Nat.le_refl _) hW3E hG5 (.string nm) (.string (keyT tx)))
            clear hG5 hb5
            refine anyL_oneD (i := 17) (by kernel_rfl) (of_decide_eq_true (by kernel_rfl)) (fun o ho K hK => ?_)
            simp only [List.getElem?_toArray, List.getElem?_cons_succ, List.getElem?_cons_zero, Option.some.injEq] at ho; subst ho
            rw [if_pos (by rfl)]
            go_simp
            refine hK.out _ _ (fun h => absurd rfl h) ?_
            try simp only [Act.put, List.setIfInBounds_toArray, List.set_cons_zero, List.set_cons_succ]
            refine anyL_done (by kernel_rfl) ?_ _
            exact key _ _ _ _ _ _ _ _ _ _ _ _ _ _ _ _ _ _ HP.out.1 HP.out.2.1 HP.out.2.2.1 HP.out.2.2.2
        case done2 =>
          rintro W3 ⟨hst3, hch3⟩
          have hen := entsOf_length HPO.out
          have hll := HFO.out.len
          have hq : pre.length * 4194304 + 1 + (entsOf f.ls ⟨nm, ph, pe⟩).length * 3 ≤ (pre.length + 1) * 4194304 := by
            rw [Nat.succ_mul]
            generalize (entsOf f.ls ⟨nm, ph, pe⟩).length = u at hen
            generalize pre.length * 4194304 = z
            clear hQ0
            omega
          have hc := HCH.out.trans hch3
          gi_wp2
          refine ⟨hc.from (by omega) (by omega), hc.kp, ?_⟩
          show St E ((pre ++ [(f, (⟨nm, ph, pe⟩ : Part))]).length * 4194304) (foldP kp keyT EV [] (pre ++ [(f, ⟨nm, ph, pe⟩)])) W3
          rw [HOH.out]
          exact hst3.mono (by rw [List.length_append, List.length_singleton]; exact hq)
    · have HOH := hide (show foldP kp keyT EV [] (pre ++ [(f, ⟨nm, ph, pe⟩)]) = S by rw [HPX.out]; unfold stepP; rw [if_neg hkn])
      gi_wp2_with (refine ⟨trivial, ?_⟩; refine (CallsIn.inRound l (callsIn_wide.2 HKC.out)).mono ?_; rintro e w' ⟨rfl, hw⟩; have hw' := hw.symm; subst hw')
      refine ⟨KeepsFrom.refl _ _, Kp.refl _, ?_⟩
      show St E ((pre ++ [(f, (⟨nm, ph, pe⟩ : Part))]).length * 4194304) (foldP kp keyT EV [] (pre ++ [(f, ⟨nm, ph, pe⟩)])) W
      rw [HOH.out]
      exact HI.out.mono (by rw [List.length_append, List.length_singleton]; exact Nat.mul_le_mul_right _ (Nat.le_succ _))
  case done =>
    rintro D W hD hI hK
    obtain ⟨v, hv, hr⟩ := hI.vs
    rw [HEd.out] at hv
    have cv : W.cell? ⟨Bs, 0, none⟩ = some v := by rw [cell_of_row W _ 0 _ _ _ hv]; rfl
    obtain ⟨ao, cp, rfl⟩ : ∃ ao cp, v = .slice ao (foldP kp keyT EV [] (fileParts fs)).length cp := by obtain ⟨_, _, _, _, hR⟩ := hr; exact own_slice hR.row
    have HR := hide hr
    have HI := hide hI
    have HK := hide hK
    have HD := hide hD
    clear hv hr hI hK hD
    go_wp2
    refine ⟨by simp, .inl ⟨D, _, rfl, run_takeDeferred HK.out, ?_⟩⟩
    have hput := HI.out.put HK.out rfl (Nat.lt_of_lt_of_le hM1 HD.out) (Nat.lt_of_lt_of_le hM2 HD.out) (.deferred none)
    obtain ⟨v2, hv2, hr2⟩ := hput.vs
    refine ⟨_, results_tmp1 (t := 4) rfl _ _ _, _, E.base, rfl, by rw [HEd.out]; exact HW.out, HR.out.stay (Stay.put (.deferred none) HK.out rfl), hput.wf.mono (by omega), by have := hput.bl; rwa [hW0] at this⟩
end Go.Proofs.Qxb6603539a.Ds

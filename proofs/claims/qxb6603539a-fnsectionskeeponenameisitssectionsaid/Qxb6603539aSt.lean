import Derived.Test.Qxb6603539aWCfgI
import Derived.Test.Qxb6603539aMap
namespace Go.Proofs.Qxb6603539a.Ds
open Go.RowKit

/-- Names apart; lengths bounded. -/
structure WF (Q : Nat) (S : List Sc) : Prop where
  len : S.length ≤ Q
  apart : ∀ i j, i < S.length → j < S.length → (sat S i).nm = (sat S j).nm → i = j
  klen : ∀ i, i < S.length → (sat S i).ks.length ≤ Q
  kapart : ∀ i j l, i < S.length → j < (sat S i).ks.length → l < (sat S i).ks.length → (kat (sat S i).ks j).nm = (kat (sat S i).ks l).nm → j = l
  vlen : ∀ i j, i < S.length → j < (sat S i).ks.length → (kat (sat S i).ks j).vs.length ≤ Q
theorem WF.mono {Q Q' : Nat} {S : List Sc} (h : WF Q S) (hq : Q ≤ Q') : WF Q' S :=
  ⟨Nat.le_trans h.len hq, h.apart, fun i hi => Nat.le_trans (h.klen i hi) hq, h.kapart, fun i j hi hj => Nat.le_trans (h.vlen i j hi hj) hq⟩

/-- The blocks of the call's own variables. -/
structure Vars where
  w0 : World
  Bs : Nat
  B1 : Nat
  B2 : Nat
  Bf : Nat
  Bk : Nat
  M1 : Nat
  M2 : Nat
  base : Nat
  kf : Value

structure St (E : Vars) (Q : Nat) (S : List Sc) (W : World) : Prop where
  vs : ∃ v, W.heap[E.Bs]? = some (.cells #[v] 52 (0, 0)) ∧ Rep 72 78 E.base W v S
  m1v : W.heap[E.B1]? = some (.cells #[.map (some E.M1)] 85 (0, 0))
  m2v : W.heap[E.B2]? = some (.cells #[.map (some E.M2)] 86 (0, 0))
  fnv : W.heap[E.Bf]? = some (.cells #[.func (.func 37) #[] #[.pointer (some ⟨E.B1, 0, none⟩), .pointer (some ⟨E.Bs, 0, none⟩)]] 89 (0, 0))
  kpv : W.heap[E.Bk]? = some (.cells #[E.kf] 69 (0, 0))
  m1 : ∃ L, MapAt 9 W E.M1 L ∧ ∀ p, p ∈ L ↔ ∃ i, i < S.length ∧ p = (.string (sat S i).nm, (i : Int))
  m2 : ∃ L, MapAt 99 W E.M2 L ∧ ∀ p, p ∈ L ↔ ∃ i j, i < S.length ∧ j < (sat S i).ks.length ∧ p = (.agg #[.string (sat S i).nm, .string (kat (sat S i).ks j).nm], (j : Int))
  wf : WF Q S
  bl : Below E.w0.heap.size E.w0 W
  ne : E.M1 ≠ E.M2
  lo : E.w0.heap.size ≤ E.Bs ∧ E.w0.heap.size ≤ E.M1 ∧ E.w0.heap.size ≤ E.M2 ∧ E.w0.heap.size ≤ E.base ∧ E.base ≤ W.heap.size

def freeT (t : TypeId) : Prop := t = 52 ∨ t = 72 ∨ t = 78 ∨ t = 9
/-- What a step of the body may turn: blocks of cells of the types 52, 72, 78, 9, and the two maps. -/
structure Chg (E : Vars) (W W' : World) : Prop where
  size : W.heap.size ≤ W'.heap.size
  cells : ∀ (k : Nat) (c : Array Value) (t : TypeId) (fr : Nat × Nat), W.heap[k]? = some (.cells c t fr) → ¬ freeT t → W'.heap[k]? = some (.cells c t fr)
  objs : ∀ (k : Nat) (o : Obj), W.heap[k]? = some o → o.isCells = false → k ≠ E.M1 → k ≠ E.M2 → W'.heap[k]? = some o
section
variable {E : Vars} {A B C W W' : World} {Q : Nat} {S : List Sc}
theorem Chg.refl (E : Vars) (W : World) : Chg E W W := ⟨Nat.le_refl _, fun _ _ _ _ h _ => h, fun _ _ h _ _ _ => h⟩
theorem Chg.trans (h : Chg E A B) (k : Chg E B C) : Chg E A C := ⟨Nat.le_trans h.size k.size, fun i c t fr hi ht => k.cells i c t fr (h.cells i c t fr hi ht) ht, fun i o hi ho h1 h2 => k.objs i o (h.objs i o hi ho h1 h2) ho h1 h2⟩
theorem Chg.alloc (h : Chg E A B) (o : Obj) : Chg E A (B.alloc o) :=
  h.trans ⟨by simp, fun _ _ _ _ hi _ => (Below.heap_alloc _ _ _ (lt_of_some hi)).trans hi, fun _ _ hi _ _ _ => (Below.heap_alloc _ _ _ (lt_of_some hi)).trans hi⟩
theorem Chg.drew (h : Chg E A B) : Chg E A B.drew := h.trans ⟨Nat.le_refl _, fun _ _ _ _ hi _ => hi, fun _ _ hi _ _ _ => hi⟩
theorem Chg.below (h : Below W.heap.size W W') : Chg E W W' := ⟨h.size, fun _ _ _ _ hi _ => (h.block _ (lt_of_some hi)).trans hi, fun _ _ hi _ _ _ => (h.block _ (lt_of_some hi)).trans hi⟩
theorem Chg.kp (h : Chg E W W') : Kp W W' := ⟨h.size, fun k c t fr hk ht => h.cells k c t fr hk (by unfold freeT; unfold envT at ht; rcases ht with rfl | rfl | rfl | rfl | rfl | rfl <;> decide)⟩
theorem Chg.from (h : Chg E W W') {N : Nat} (h1 : E.M1 < N) (h2 : E.M2 < N) : KeepsFrom N W W' := ⟨h.size, fun k o hk hi ho => h.objs k o hi ho (by omega) (by omega)⟩
theorem Chg.map1 (hg : W.grownBy W' (some E.M1)) {es : Array MapEntry} {c : Nat} (h : W.heap[E.M1]? = some (.map es c)) : Chg E W W' :=
  ⟨hg.size, fun k c' t fr hk _ => (hg.block k (lt_of_some hk) (fun e => by cases e; rw [h] at hk; cases hk)).trans hk, fun k o hk _ h1 _ => (hg.block k (lt_of_some hk) (fun e => h1 (by cases e; rfl))).trans hk⟩
theorem Chg.map2 (hg : W.grownBy W' (some E.M2)) {es : Array MapEntry} {c : Nat} (h : W.heap[E.M2]? = some (.map es c)) : Chg E W W' :=
  ⟨hg.size, fun k c' t fr hk _ => (hg.block k (lt_of_some hk) (fun e => by cases e; rw [h] at hk; cases hk)).trans hk, fun k o hk _ _ h2 => (hg.block k (lt_of_some hk) (fun e => h2 (by cases e; rfl))).trans hk⟩
theorem Chg.row {v : Value} {base n sz : Nat} {e : TypeId} {xs : List Value} (hg : W.grownBy W' v.ownBlock) (h : W.ownsRow base e sz v n xs) (he : freeT e) : Chg E W W' :=
  ⟨hg.size, fun k c t fr hk ht => (hg.block k (lt_of_some hk) (fun e1 => by obtain ⟨c', hc'⟩ := own_type h e1.symm; rw [hk] at hc'; cases hc'; exact ht he)).trans hk,
   fun k o hk ho _ _ => (hg.block k (lt_of_some hk) (fun e1 => by obtain ⟨c', hc'⟩ := own_type h e1.symm; rw [hk] at hc'; cases hc'; cases ho)).trans hk⟩
theorem Chg.set {r j : Nat} {c : Array Value} {t : TypeId} {fr : Nat × Nat} (v : Value) (h : W.heap[r]? = some (.cells c t fr)) (ht : freeT t) : Chg E W (W.setCell ⟨r, j, none⟩ v) :=
  ⟨by simp [World.setCell], fun k c' t' fr' hk hT => (Below.heap_setCell _ _ _ _ (fun e => by subst e; rw [h] at hk; cases hk; exact hT ht)).trans hk, fun k o hk ho _ _ => (Below.heap_setCell _ _ _ _ (fun e => by subst e; rw [h] at hk; cases hk; cases ho)).trans hk⟩

/-- What leaves the state as it was: blocks of the state's own types and the two maps stand. -/
theorem St.stay (h : St E Q S W) (hs : Stay (fun t => freeT t ∨ t = 85 ∨ t = 86 ∨ t = 89 ∨ t = 69) W W') (h1 : W'.heap[E.M1]? = W.heap[E.M1]?) (h2 : W'.heap[E.M2]? = W.heap[E.M2]?) (hb : Below E.w0.heap.size E.w0 W') : St E Q S W' := by
  obtain ⟨v, hv, hr⟩ := h.vs
  obtain ⟨L1, hm1, hL1⟩ := h.m1
  obtain ⟨L2, hm2, hL2⟩ := h.m2
  refine ⟨⟨v, hs.same _ _ _ _ hv (by simp [freeT]), hr.stay (hs.mono (fun t ht => .inl (by unfold freeT; rcases ht with rfl | rfl | rfl <;> simp)))⟩, hs.same _ _ _ _ h.m1v (by simp), hs.same _ _ _ _ h.m2v (by simp), hs.same _ _ _ _ h.fnv (by simp), hs.same _ _ _ _ h.kpv (by simp), ⟨L1, hm1.blk h1, hL1⟩, ⟨L2, hm2.blk h2, hL2⟩, h.wf, hb, h.ne, h.lo.1, h.lo.2.1, h.lo.2.2.1, h.lo.2.2.2.1, Nat.le_trans h.lo.2.2.2.2 hs.size⟩
theorem St.lt1 (h : St E Q S W) : E.M1 < W.heap.size := by obtain ⟨L, hm, _⟩ := h.m1; exact hm.lt
theorem St.lt2 (h : St E Q S W) : E.M2 < W.heap.size := by obtain ⟨L, hm, _⟩ := h.m2; exact hm.lt
theorem St.alloc (h : St E Q S W) (o : Obj) : St E Q S (W.alloc o) :=
  h.stay ((Stay.refl _ _).alloc o) (Below.heap_alloc _ _ _ h.lt1) (Below.heap_alloc _ _ _ h.lt2) (h.bl.alloc h.bl.size _)
theorem St.drew (h : St E Q S W) : St E Q S W.drew := h.stay (Stay.refl _ _).drew rfl rfl h.bl.drew
theorem St.below (h : St E Q S W) (hb : Below W.heap.size W W') : St E Q S W' :=
  h.stay (Stay.below hb) (hb.block _ h.lt1) (hb.block _ h.lt2) (h.bl.trans (hb.mono h.bl.size))
theorem St.mono {Q' : Nat} (h : St E Q S W) (hq : Q ≤ Q') : St E Q' S W := ⟨h.vs, h.m1v, h.m2v, h.fnv, h.kpv, h.m1, h.m2, h.wf.mono hq, h.bl, h.ne, h.lo⟩
theorem St.cell {r j : Nat} {c : Array Value} {fr : Nat × Nat} (h : St E Q S W) (hr : W.heap[r]? = some (.cells c 94 fr)) (hl : E.w0.heap.size ≤ r) (v : Value) : St E Q S (W.setCell ⟨r, j, none⟩ v) :=
  h.stay (Stay.cell v hr (by simp [freeT])) (Below.heap_setCell _ _ _ _ (fun e => by
    obtain ⟨L, hm, _⟩ := h.m1; obtain ⟨es, c', ho⟩ := hm.obj; have e' : E.M1 = r := e; rw [e', hr] at ho; cases ho)) (Below.heap_setCell _ _ _ _ (fun e => by
    obtain ⟨L, hm, _⟩ := h.m2; obtain ⟨es, c', ho⟩ := hm.obj; have e' : E.M2 = r := e; rw [e', hr] at ho; cases ho)) (h.bl.setCell (p := ⟨r, j, none⟩) hl v)
theorem St.put {r : Nat} {o : Obj} (h : St E Q S W) (hr : W.heap[r]? = some o) (ho : o.isCells = false) (h1 : E.M1 < r) (h2 : E.M2 < r) (o' : Obj) : St E Q S (W.putObj r o') :=
  h.stay (Stay.put o' hr ho) (World.putObj_heap_other (by omega)) (World.putObj_heap_other (by omega)) (h.bl.grown (grownBy_putObj' W r o') h.bl.size (fun k e => by cases e; have := h.lo.2.1; omega))
end
end Go.Proofs.Qxb6603539a.Ds

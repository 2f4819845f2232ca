/-
  WHERE THE SECTIONS LIE: a row of (name, keys), for each a row of (name, values), for each a row of strings; the rows all apart. And what an append to one of them, and the store of the new slice, make of it.
-/
import Derived.Laws.AppendOwn
import Derived.Laws.OwnMore
import Derived.Deep.AppendLies
import Derived.RangeFuncNested
import Derived.Test.Qxb6603539aSecs
namespace Go.Proofs.Qxb6603539a.Ds
open Go.RowKit

theorem some_lt {h : Array Obj} {i : Nat} {o : Obj} (e : h[i]? = some o) : i < h.size := (Array.getElem?_eq_some_iff.1 e).1

/-- Every block of cells of one of the types T stands as it stood. -/
structure Stay (T : TypeId → Prop) (W W' : World) : Prop where
  size : W.heap.size ≤ W'.heap.size
  same : ∀ (k : Nat) (c : Array Value) (t : TypeId) (fr : Nat × Nat), W.heap[k]? = some (.cells c t fr) → T t → W'.heap[k]? = some (.cells c t fr)
theorem Stay.refl (T : TypeId → Prop) (W : World) : Stay T W W := ⟨Nat.le_refl _, fun _ _ _ _ h _ => h⟩
theorem Stay.trans {T : TypeId → Prop} {A B C : World} (h : Stay T A B) (k : Stay T B C) : Stay T A C := ⟨Nat.le_trans h.size k.size, fun i c t fr hi ht => k.same i c t fr (h.same i c t fr hi ht) ht⟩
theorem Stay.alloc {T : TypeId → Prop} {A B : World} (h : Stay T A B) (o : Obj) : Stay T A (B.alloc o) := h.trans ⟨by simp, fun _ _ _ _ hi _ => (Below.heap_alloc _ _ _ (some_lt hi)).trans hi⟩
theorem Stay.drew {T : TypeId → Prop} {A B : World} (h : Stay T A B) : Stay T A B.drew := h.trans ⟨Nat.le_refl _, fun _ _ _ _ hi _ => hi⟩
theorem Stay.below {T : TypeId → Prop} {w W : World} (h : Below w.heap.size w W) : Stay T w W := ⟨h.size, fun k _ _ _ hk _ => (h.block k (some_lt hk)).trans hk⟩
theorem Stay.put {T : TypeId → Prop} {W : World} {l : Nat} {o : Obj} (o' : Obj) (h : W.heap[l]? = some o) (ho : o.isCells = false) : Stay T W (W.putObj l o') :=
  ⟨by simp [World.putObj], fun k c t fr hk _ => (World.putObj_heap_other (fun e => by subst e; rw [h] at hk; cases hk; cases ho)).trans hk⟩
theorem Stay.cell {T : TypeId → Prop} {W : World} {r j : Nat} {c : Array Value} {t : TypeId} {fr : Nat × Nat} (v : Value) (h : W.heap[r]? = some (.cells c t fr)) (ht : ¬ T t) : Stay T W (W.setCell ⟨r, j, none⟩ v) :=
  ⟨by simp [World.setCell], fun k c' t' fr' hk hT => (Below.heap_setCell _ _ _ _ (fun e => by subst e; rw [h] at hk; cases hk; exact ht hT)).trans hk⟩
theorem Stay.grown {T : TypeId → Prop} {W W' : World} {g : Nat} {o : Obj} (hg : W.grownBy W' (some g)) (h : W.heap[g]? = some o) (ho : ∀ c t fr, o = .cells c t fr → ¬ T t) : Stay T W W' :=
  ⟨hg.size, fun k c t fr hk hT => (hg.block k (some_lt hk) (fun e => by cases e; rw [h] at hk; cases hk; exact ho _ _ _ rfl hT)).trans hk⟩
theorem Stay.mono {T T' : TypeId → Prop} {W W' : World} (h : Stay T W W') (k : ∀ t, T' t → T t) : Stay T' W W' := ⟨h.size, fun i c t fr hi ht => h.same i c t fr hi (k t ht)⟩

section
variable {W W' Wa W1 : World} {base base' n n' sz sz' : Nat} {e e' : TypeId} {v v' : Value} {xs xs' : List Value}
theorem own_blk (h : W.ownsRow base e sz v n xs) (hk : ∀ g, v.ownBlock = some g → W'.heap[g]? = W.heap[g]?) : W'.ownsRow base e sz v n xs := by
  refine ⟨h.1, h.2.imp id ?_⟩
  rintro ⟨g, cap, cur, rfl, h2, h3, r⟩
  exact ⟨g, cap, cur, rfl, h2, (hk g rfl).trans h3, r⟩
theorem own_type (h : W.ownsRow base e sz v n xs) {g : Nat} (hg : v.ownBlock = some g) : ∃ c, W.heap[g]? = some (.cells c e (0, 0)) := by
  rcases h.2 with ⟨rfl, _⟩ | ⟨g', cap, cur, rfl, _, h3, _⟩
  · cases hg
  · cases hg; exact ⟨cur, h3⟩
theorem own_stay {T : TypeId → Prop} (h : W.ownsRow base e sz v n xs) (ht : T e) (hs : Stay T W W') : W'.ownsRow base e sz v n xs :=
  own_blk h fun g hg => by obtain ⟨c, hc⟩ := own_type h hg; rw [hc]; exact hs.same _ _ _ _ hc ht
theorem own_ne (h : W.ownsRow base e sz v n xs) (h' : W.ownsRow base' e' sz' v' n' xs') (hne : e ≠ e') {g : Nat} (hg : v.ownBlock = some g) : v'.ownBlock ≠ some g := fun hg' => by
  obtain ⟨c, hc⟩ := own_type h hg
  obtain ⟨c', hc'⟩ := own_type h' hg'
  rw [hc] at hc'; cases hc'; exact hne rfl
theorem own_grown {row : Option Nat} (h : W.ownsRow base e sz v n xs) (hg : W.grownBy W' row) (hne : ∀ g, v.ownBlock = some g → row ≠ some g) : W'.ownsRow base e sz v n xs :=
  own_blk h fun g hv => hg.block g ((h.lt g hv).2) (fun e => hne g hv e.symm)
theorem own_put {g j : Nat} {u : Value} (h : W.ownsRow base e sz v n xs) (hne : v.ownBlock ≠ some g) : (W.setCell ⟨g, j, none⟩ u).ownsRow base e sz v n xs :=
  own_blk h fun g' hv => Below.heap_setCell _ _ _ _ (fun e => by subst e; exact hne hv)
theorem own_set {g j : Nat} {u : Value} (h : W.ownsRow base e sz v n xs) (hg : v.ownBlock = some g) : (W.setCell ⟨g, j, none⟩ u).ownsRow base e sz v n (xs.set j u) := by
  refine ⟨by simpa using h.1, .inr ?_⟩
  rcases h.2 with ⟨rfl, _⟩ | ⟨g', cap, cur, rfl, h2, h3, h4, h5, h6, h7⟩
  · cases hg
  · cases hg
    refine ⟨g', cap, _, rfl, h2, heap_setCell_same W g' j cur e u h3, h4, h5, by simpa using h6, ?_⟩
    rw [Array.toList_setIfInBounds, List.take_set, h7]
theorem own_slice (h : W.ownsRow base e sz v n xs) : ∃ ao cp, v = .slice ao n cp := by
  rcases h.2 with ⟨h1, h2⟩ | ⟨g, cap, cur, a1, _⟩
  · subst h2; exact ⟨_, _, h1⟩
  · exact ⟨_, _, a1⟩
theorem own_at (h : W.ownsRow base e sz v n xs) (hn : 0 < n) : ∃ g cp, v = .slice (some ⟨g, 0, none⟩) n cp ∧ v.ownBlock = some g ∧ base ≤ g ∧ g < W.heap.size ∧ n ≤ cp ∧ (∀ j, j < n * sz → W.cell? ⟨g, j, none⟩ = xs[j]?) ∧ (∀ j, W.frozen? ⟨g, j, none⟩ = false) := by
  rcases h.2 with ⟨_, h2⟩ | ⟨g, cap, cur, rfl, a2, a3, a4, _⟩
  · omega
  · exact ⟨g, cap, rfl, rfl, a2, some_lt a3, a4, fun j hj => h.cellAt j hj, fun j => frozen_of_row W g j cur e a3⟩
end

def repT (t1 t2 : TypeId) (t : TypeId) : Prop := t = t1 ∨ t = t2 ∨ t = 9
structure RepV (t1 t2 : TypeId) (base : Nat) (W : World) (v : Value) (S : List Sc) (kv : Nat → Value) (vv : Nat → Nat → Value) (φk : Nat → Nat) (φv : Nat → Nat × Nat) : Prop where
  row : W.ownsRow base t1 2 v S.length (pairs (fun i => .string (sat S i).nm) kv S.length)
  keys : ∀ i, i < S.length → W.ownsRow base t2 2 (kv i) (sat S i).ks.length (pairs (fun j => .string (kat (sat S i).ks j).nm) (vv i) (sat S i).ks.length)
  vals : ∀ i j, i < S.length → j < (sat S i).ks.length → W.ownsRow base 9 1 (vv i j) (kat (sat S i).ks j).vs.length ((kat (sat S i).ks j).vs.map .string)
  inK : ∀ i g, i < S.length → (kv i).ownBlock = some g → φk g = i
  inV : ∀ i j g, i < S.length → j < (sat S i).ks.length → (vv i j).ownBlock = some g → φv g = (i, j)
def Rep (t1 t2 : TypeId) (base : Nat) (W : World) (v : Value) (S : List Sc) : Prop := ∃ kv vv φk φv, RepV t1 t2 base W v S kv vv φk φv

theorem Rep.nil (t1 t2 : TypeId) (base : Nat) (W : World) : Rep t1 t2 base W (.slice none 0 0) [] :=
  ⟨fun _ => .slice none 0 0, fun _ _ => .slice none 0 0, fun _ => 0, fun _ => (0, 0), World.ownsRow_nil _ _ _ _, fun i h => by simp at h, fun i j h => by simp at h, fun i g h => by simp at h, fun i j g h => by simp at h⟩

section
variable {t1 t2 : TypeId} {base : Nat} {W W' Wa W1 : World} {v v' : Value} {S : List Sc} {kv : Nat → Value} {vv : Nat → Nat → Value} {φk : Nat → Nat} {φv : Nat → Nat × Nat}
theorem RepV.stay (h : RepV t1 t2 base W v S kv vv φk φv) (hs : Stay (repT t1 t2) W W') : RepV t1 t2 base W' v S kv vv φk φv :=
  ⟨own_stay h.row (.inl rfl) hs, fun i hi => own_stay (h.keys i hi) (.inr (.inl rfl)) hs, fun i j hi hj => own_stay (h.vals i j hi hj) (.inr (.inr rfl)) hs, h.inK, h.inV⟩
theorem Rep.stay (h : Rep t1 t2 base W v S) (hs : Stay (repT t1 t2) W W') : Rep t1 t2 base W' v S := by
  obtain ⟨kv, vv, φk, φv, h⟩ := h
  exact ⟨kv, vv, φk, φv, h.stay hs⟩

/-- A section is added. -/
theorem RepV.sec (h : RepV t1 t2 base Wa v S kv vv φk φv) (h12 : t1 ≠ t2) (h19 : t1 ≠ 9) {nm : ByteArray} (hg : Wa.grownBy W1 v.ownBlock)
    (ho : W1.ownsRow base t1 2 v' (S.length + 1) (pairs (fun i => .string (sat S i).nm) kv S.length ++ [.string nm, .slice none 0 0])) : Rep t1 t2 base W1 v' (addSec S nm) := by
  refine ⟨upd kv S.length (.slice none 0 0), vv, φk, φv, ?_, ?_, ?_, ?_, ?_⟩
  · have e : (addSec S nm).length = S.length + 1 := by simp [addSec]
    rw [e]
    have : pairs (fun i => .string (sat (addSec S nm) i).nm) (upd kv S.length (.slice none 0 0)) (S.length + 1) = pairs (fun i => .string (sat S i).nm) kv S.length ++ [.string nm, .slice none 0 0] := by
      conv => lhs; unfold pairs
      rw [pairs_congr (a' := fun i => .string (sat S i).nm) (b' := kv) S.length (fun i hi => by simp only [addSec]; rw [sat_app hi]) (fun i hi => upd_other kv _ (by omega)), upd_same, addSec, sat_new]
    rw [this]; exact ho
  · intro i hi
    simp only [addSec, List.length_append, List.length_singleton] at hi
    by_cases hlt : i < S.length
    · rw [upd_other kv _ (by omega)]
      simp only [addSec]; rw [sat_app hlt]
      exact own_grown (h.keys i hlt) hg (fun g hg' => own_ne (h.keys i hlt) h.row h12.symm hg')
    · obtain rfl : i = S.length := by omega
      rw [upd_same]; simp only [addSec]; rw [sat_new]
      exact World.ownsRow_nil _ _ _ _
  · intro i j hi hj
    simp only [addSec, List.length_append, List.length_singleton] at hi
    by_cases hlt : i < S.length
    · simp only [addSec] at hj ⊢; rw [sat_app hlt] at hj ⊢
      exact own_grown (h.vals i j hlt hj) hg (fun g hg' => own_ne (h.vals i j hlt hj) h.row h19.symm hg')
    · obtain rfl : i = S.length := by omega
      simp only [addSec] at hj; rw [sat_new] at hj; simp at hj
  · intro i g hi hg'
    simp only [addSec, List.length_append, List.length_singleton] at hi
    by_cases hlt : i < S.length
    · rw [upd_other kv _ (by omega)] at hg'; exact h.inK i g hlt hg'
    · obtain rfl : i = S.length := by omega
      rw [upd_same] at hg'; cases hg'
  · intro i j g hi hj hg'
    simp only [addSec, List.length_append, List.length_singleton] at hi
    by_cases hlt : i < S.length
    · simp only [addSec] at hj; rw [sat_app hlt] at hj; exact h.inV i j g hlt hj hg'
    · obtain rfl : i = S.length := by omega
      simp only [addSec] at hj; rw [sat_new] at hj; simp at hj

/-- A key is added to section i. -/
theorem RepV.key (h : RepV t1 t2 base Wa v S kv vv φk φv) (h12 : t1 ≠ t2) (h19 : t1 ≠ 9) (h29 : t2 ≠ 9) {key : ByteArray} {i g : Nat} {k' : Value} (hi : i < S.length) (hv : v.ownBlock = some g) (hg : Wa.grownBy W1 (kv i).ownBlock)
    (ho : W1.ownsRow base t2 2 k' ((sat S i).ks.length + 1) (pairs (fun j => .string (kat (sat S i).ks j).nm) (vv i) (sat S i).ks.length ++ [.string key, .slice none 0 0]))
    (hat : k'.ownBlock = (kv i).ownBlock ∨ k'.ownBlock = some Wa.heap.size) : Rep t1 t2 base (W1.setCell ⟨g, i * 2 + 1, none⟩ k') v (addKey S i key) := by
  have hrow1 : W1.ownsRow base t1 2 v S.length _ := own_grown h.row hg (fun g' hg' => own_ne h.row (h.keys i hi) h12 hg')
  have hkg : k'.ownBlock ≠ some g := fun e => by
    rcases hat with e2 | e2
    · rw [e2] at e; exact own_ne (h.keys i hi) h.row h12.symm e hv
    · rw [e2] at e; cases e; have := (h.row.lt _ hv).2; omega
  have hother : ∀ i' g', i' < S.length → i' ≠ i → (kv i').ownBlock = some g' → (kv i).ownBlock ≠ some g' ∧ k'.ownBlock ≠ some g' := fun i' g' hi' hne hg' => by
    have h1 : (kv i).ownBlock ≠ some g' := fun e => hne (by rw [← h.inK i' g' hi' hg', h.inK i g' hi e])
    refine ⟨h1, fun e => ?_⟩
    rcases hat with e2 | e2
    · rw [e2] at e; exact h1 e
    · rw [e2] at e; cases e; have := ((h.keys i' hi').lt _ hg').2; omega
  refine ⟨upd kv i k', upd vv i (upd (vv i) (sat S i).ks.length (.slice none 0 0)), fun b => if some b = k'.ownBlock then i else φk b, φv, ?_, ?_, ?_, ?_, ?_⟩
  · rw [addKey_len]
    have := own_set (j := i * 2 + 1) (u := k') hrow1 hv
    rw [pairs_set hi] at this
    rw [pairs_congr (a' := fun i => .string (sat S i).nm) (b' := upd kv i k') S.length (fun j hj => ?_) (fun _ _ => rfl)]
    · exact this
    · simp only [addKey]
      by_cases hji : j = i
      · subst hji; rw [sat_set_same hi]
      · rw [sat_set_other (Ne.symm hji)]
  · intro j hj
    rw [addKey_len] at hj
    by_cases hji : j = i
    · subst hji
      rw [upd_same, upd_same]; simp only [addKey]; rw [sat_set_same hi]
      simp only [List.length_append, List.length_singleton]
      have : pairs (fun j_1 => .string (kat ((sat S j).ks ++ [⟨key, []⟩]) j_1).nm) (upd (vv j) (sat S j).ks.length (.slice none 0 0)) ((sat S j).ks.length + 1) = pairs (fun j_1 => .string (kat (sat S j).ks j_1).nm) (vv j) (sat S j).ks.length ++ [.string key, .slice none 0 0] := by
        conv => lhs; unfold pairs
        rw [pairs_congr (a' := fun j_1 => .string (kat (sat S j).ks j_1).nm) (b' := vv j) _ (fun i' hi' => by rw [kat_app hi']) (fun i' hi' => upd_other _ _ (by omega)), upd_same, kat_new]
      rw [this]
      exact own_put ho hkg
    · rw [upd_other kv _ hji, upd_other vv _ hji]; simp only [addKey]; rw [sat_set_other (Ne.symm hji)]
      refine own_put (own_grown (h.keys j hj) hg (fun g' hg' => (hother j g' hj hji hg').1)) (fun e => own_ne (h.keys j hj) h.row h12.symm e hv)
  · intro j l hj hl
    rw [addKey_len] at hj
    by_cases hji : j = i
    · subst hji
      simp only [addKey] at hl ⊢
      rw [sat_set_same hi] at hl ⊢
      rw [upd_same]
      simp only [List.length_append, List.length_singleton] at hl
      by_cases hll : l < (sat S j).ks.length
      · rw [upd_other _ _ (by omega)]; simp only; rw [kat_app hll]
        refine own_put (own_grown (h.vals j l hj hll) hg (fun g' hg' => own_ne (h.vals j l hj hll) (h.keys j hj) h29.symm hg')) (fun e => ?_)
        exact own_ne (h.vals j l hj hll) h.row h19.symm e hv
      · obtain rfl : l = (sat S j).ks.length := by omega
        rw [upd_same]; simp only; rw [kat_new]; exact World.ownsRow_nil _ _ _ _
    · simp only [addKey] at hl ⊢
      rw [sat_set_other (Ne.symm hji)] at hl ⊢
      rw [upd_other vv _ hji]
      refine own_put (own_grown (h.vals j l hj hl) hg (fun g' hg' => own_ne (h.vals j l hj hl) (h.keys i hi) h29.symm hg')) (fun e => own_ne (h.vals j l hj hl) h.row h19.symm e hv)
  · intro j b hj hb
    rw [addKey_len] at hj
    by_cases hji : j = i
    · subst hji; rw [upd_same] at hb; simp [hb]
    · rw [upd_other kv _ hji] at hb
      show (if some b = k'.ownBlock then i else φk b) = j
      rw [if_neg (fun e => (hother j b hj hji hb).2 e.symm)]; exact h.inK j b hj hb
  · intro j l b hj hl hb
    rw [addKey_len] at hj
    by_cases hji : j = i
    · subst hji
      simp only [addKey] at hl
      rw [sat_set_same hi] at hl
      rw [upd_same] at hb
      simp only [List.length_append, List.length_singleton] at hl
      by_cases hll : l < (sat S j).ks.length
      · rw [upd_other _ _ (by omega)] at hb; exact h.inV j l b hj hll hb
      · obtain rfl : l = (sat S j).ks.length := by omega
        rw [upd_same] at hb; cases hb
    · simp only [addKey] at hl
      rw [sat_set_other (Ne.symm hji)] at hl
      rw [upd_other vv _ hji] at hb
      exact h.inV j l b hj hl hb

/-- A value is added to key j of section i. -/
theorem RepV.val (h : RepV t1 t2 base Wa v S kv vv φk φv) (h12 : t1 ≠ t2) (h19 : t1 ≠ 9) (h29 : t2 ≠ 9) {x : ByteArray} {i j g : Nat} {x' : Value} (hi : i < S.length) (hj : j < (sat S i).ks.length) (hv : (kv i).ownBlock = some g) (hg : Wa.grownBy W1 (vv i j).ownBlock)
    (ho : W1.ownsRow base 9 1 x' ((kat (sat S i).ks j).vs.length + 1) ((kat (sat S i).ks j).vs.map .string ++ [.string x]))
    (hat : x'.ownBlock = (vv i j).ownBlock ∨ x'.ownBlock = some Wa.heap.size) : Rep t1 t2 base (W1.setCell ⟨g, j * 2 + 1, none⟩ x') v (addVal S i j x) := by
  have hkey1 : W1.ownsRow base t2 2 (kv i) _ _ := own_grown (h.keys i hi) hg (fun g' hg' => own_ne (h.keys i hi) (h.vals i j hi hj) h29 hg')
  have hkg : x'.ownBlock ≠ some g := fun e => by
    rcases hat with e2 | e2
    · rw [e2] at e; exact own_ne (h.vals i j hi hj) (h.keys i hi) h29.symm e hv
    · rw [e2] at e; cases e; have := ((h.keys i hi).lt _ hv).2; omega
  have hother : ∀ i' j' g', i' < S.length → j' < (sat S i').ks.length → (i', j') ≠ (i, j) → (vv i' j').ownBlock = some g' → (vv i j).ownBlock ≠ some g' ∧ x'.ownBlock ≠ some g' := fun i' j' g' hi' hj' hne hg' => by
    have h1 : (vv i j).ownBlock ≠ some g' := fun e => hne (by rw [← h.inV i' j' g' hi' hj' hg', h.inV i j g' hi hj e])
    refine ⟨h1, fun e => ?_⟩
    rcases hat with e2 | e2
    · rw [e2] at e; exact h1 e
    · rw [e2] at e; cases e; have := ((h.vals i' j' hi' hj').lt _ hg').2; omega
  have hsat : sat (addVal S i j x) i = ⟨(sat S i).nm, (sat S i).ks.set j ⟨(kat (sat S i).ks j).nm, (kat (sat S i).ks j).vs ++ [x]⟩⟩ := by unfold addVal; rw [sat_set_same hi]
  have hsato : ∀ i', i' ≠ i → sat (addVal S i j x) i' = sat S i' := fun i' hne => by unfold addVal; rw [sat_set_other (Ne.symm hne)]
  refine ⟨kv, upd vv i (upd (vv i) j x'), φk, fun b => if some b = x'.ownBlock then (i, j) else φv b, ?_, ?_, ?_, ?_, ?_⟩
  · rw [addVal_len]
    rw [pairs_congr (a' := fun i => .string (sat S i).nm) (b' := kv) S.length (fun l hl => ?_) (fun _ _ => rfl)]
    · exact own_put (own_grown h.row hg (fun g' hg' => own_ne h.row (h.vals i j hi hj) h19 hg')) (fun e => own_ne (h.keys i hi) h.row h12.symm hv e)
    · by_cases hli : l = i
      · subst hli; rw [hsat]
      · rw [hsato l hli]
  · intro l hl
    rw [addVal_len] at hl
    by_cases hli : l = i
    · subst hli
      rw [upd_same, hsat]
      simp only [List.length_set]
      have := own_set (j := j * 2 + 1) (u := x') hkey1 hv
      rw [pairs_set hj] at this
      rw [pairs_congr (a' := fun j => .string (kat (sat S l).ks j).nm) (b' := upd (vv l) j x') _ (fun m hm => ?_) (fun _ _ => rfl)]
      · exact this
      · by_cases hmj : m = j
        · subst hmj; rw [kat_set_same hj]
        · rw [kat_set_other (Ne.symm hmj)]
    · rw [upd_other vv _ hli, hsato l hli]
      refine own_put (own_grown (h.keys l hl) hg (fun g' hg' => own_ne (h.keys l hl) (h.vals i j hi hj) h29 hg')) (fun e => hli ?_)
      rw [← h.inK l g hl e, h.inK i g hi hv]
  · intro l m hl hm
    rw [addVal_len] at hl
    by_cases hli : l = i
    · subst hli
      rw [hsat] at hm ⊢
      rw [upd_same]
      simp only [List.length_set] at hm ⊢
      by_cases hmj : m = j
      · subst hmj
        rw [upd_same, kat_set_same hj]
        simp only [List.length_append, List.length_singleton, List.map_append, List.map_singleton]
        exact own_put ho hkg
      · rw [upd_other _ _ hmj, kat_set_other (Ne.symm hmj)]
        exact own_put (own_grown (h.vals l m hl hm) hg (fun g' hg' => (hother l m g' hl hm (fun e => hmj (by cases e; rfl)) hg').1)) (fun e => own_ne (h.vals l m hl hm) (h.keys l hl) h29.symm e hv)
    · rw [hsato l hli] at hm ⊢
      rw [upd_other vv _ hli]
      exact own_put (own_grown (h.vals l m hl hm) hg (fun g' hg' => (hother l m g' hl hm (fun e => hli (by cases e; rfl)) hg').1)) (fun e => own_ne (h.vals l m hl hm) (h.keys i hi) h29.symm e hv)
  · intro l b hl hb
    rw [addVal_len] at hl
    exact h.inK l b hl hb
  · intro l m b hl hm hb
    rw [addVal_len] at hl
    show (if some b = x'.ownBlock then (i, j) else φv b) = (l, m)
    by_cases hli : l = i
    · subst hli
      rw [hsat] at hm
      rw [upd_same] at hb
      simp only [List.length_set] at hm
      by_cases hmj : m = j
      · subst hmj; rw [upd_same] at hb; simp [hb]
      · rw [upd_other _ _ hmj] at hb
        rw [if_neg (fun e => (hother l m b hl hm (fun e => hmj (by cases e; rfl)) hb).2 e.symm)]; exact h.inV l m b hl hm hb
    · rw [hsato l hli] at hm
      rw [upd_other vv _ hli] at hb
      rw [if_neg (fun e => (hother l m b hl hm (fun e => hli (by cases e; rfl)) hb).2 e.symm)]; exact h.inV l m b hl hm hb
end
end Go.Proofs.Qxb6603539a.Ds

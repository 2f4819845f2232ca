import Derived.Test.Qxb6603539aFmtProg
import Derived.Test.Qxb6603539aFmtWIter
import Derived.Test.Qxb6603539aFmtWEnt
import Derived.Test.Qxb6603539aFmtWErr
import Derived.Test.Qxb6603539aFmtWRem2
import Derived.Test.Qxb6603539aFmtGone
import Derived.Deep.RegionHeld3
import Derived.Deep.QuietTactic
import Derived.BigQuiet
namespace Go.Proofs.Qxb6603539aFmt.Ds
open Go.RowKit
attribute [local go_sem] Oper.semAt_some

theorem parts_make (m : Nat) (w : World) : Calls Tryf.prog 17 #[.pointer (some ⟨m, 0, none⟩)] w fun e w' => e = .returned (.func (.func 25) #[] #[.pointer (some ⟨w.heap.size, 0, none⟩)]) ∧ w' = w.alloc (.cells #[.pointer (some ⟨m, 0, none⟩)] 26) := by
  go_enter Tryf.func17, Tryf.ntmps17
  go_wp2
  go_ret
  exact ⟨rfl, rfl⟩

def flatR : List (Nat × Nat) → List Value
  | [] => []
  | r :: R => .int .i64 r.1 :: .int .i64 r.2 :: flatR R
theorem flatR_length : ∀ R : List (Nat × Nat), (flatR R).length = R.length * 2
  | [] => rfl
  | r :: R => by simp [flatR, flatR_length R]; omega
theorem flatR_append : ∀ a b : List (Nat × Nat), flatR (a ++ b) = flatR a ++ flatR b
  | [], b => rfl
  | l :: r, b => by simp [flatR, flatR_append r b]
theorem flatR_0 : ∀ (R : List (Nat × Nat)) (i : Nat), i < R.length → (flatR R)[i * 2]? = some (.int .i64 (rat R i).1)
  | [], i, h => by simp at h
  | r :: R, 0, h => by simp [flatR, rat]
  | r :: R, i + 1, h => by
    have e : (i + 1) * 2 = i * 2 + 2 := by omega
    rw [e]; simp only [flatR, List.getElem?_cons_succ]; rw [flatR_0 R i (by simpa using h)]; simp [rat]
theorem flatR_1 : ∀ (R : List (Nat × Nat)) (i : Nat), i < R.length → (flatR R)[i * 2 + 1]? = some (.int .i64 (rat R i).2)
  | [], i, h => by simp at h
  | r :: R, 0, h => by simp [flatR, rat]
  | r :: R, i + 1, h => by
    have e : (i + 1) * 2 + 1 = i * 2 + 1 + 2 := by omega
    rw [e]; simp only [flatR, List.getElem?_cons_succ]; rw [flatR_1 R i (by simpa using h)]; simp [rat]
theorem flatR_set {R : List (Nat × Nat)} (h : R ≠ []) (e : Nat) : (flatR R).set ((R.length - 1) * 2 + 1) (.int .i64 e) = flatR (R.dropLast ++ [((rat R (R.length - 1)).1, e)]) := by
  have hs := last_split h
  have hl : R.length - 1 = R.dropLast.length := by simp
  conv => lhs; rw [hs]
  rw [flatR_append, flatR_append]
  have : (R.dropLast ++ [rat R (R.length - 1)]).length - 1 = R.dropLast.length := by simp
  rw [this, List.set_append, if_neg (by rw [flatR_length]; omega), flatR_length]
  have e2 : R.dropLast.length * 2 + 1 - R.dropLast.length * 2 = 1 := by omega
  rw [e2]
  rfl

/-- What DeleteSection knows between two parts: its section lies in block B0, its runs in the variable in block B1; nothing that was there has turned. -/
structure Iv (sec : ByteArray) (B0 B1 base : Nat) (w : World) (pre : List Part) (W : World) : Prop where
  s : W.heap[B0]? = some (.cells #[.string sec] 9 (0, 0))
  r : ∃ v, W.heap[B1]? = some (.cells #[v] 49 (0, 0)) ∧ W.ownsRow base 56 2 v (foldR sec pre).length (flatR (foldR sec pre))
  b : Below w.heap.size w W

section
variable {sec : ByteArray} {B0 B1 base : Nat} {w W W' : World} {pre : List Part}
theorem owns_keep {v : Value} {n : Nat} {xs : List Value} (h : W.ownsRow base 56 2 v n xs) (hk : ∀ (j : Nat) (c : Array Value), W.heap[j]? = some (.cells c 56 (0, 0)) → W'.heap[j]? = some (.cells c 56 (0, 0))) : W'.ownsRow base 56 2 v n xs := by
  obtain ⟨h1, h2⟩ := h
  refine ⟨h1, ?_⟩
  rcases h2 with h2 | ⟨g, cap, cur, a1, a2, a3, a4⟩
  · exact .inl h2
  · exact .inr ⟨g, cap, cur, a1, a2, hk _ _ a3, a4⟩
theorem Iv.keep (h : Iv sec B0 B1 base w pre W) (hk : ∀ (j : Nat) (c : Array Value) (t : TypeId), W.heap[j]? = some (.cells c t (0, 0)) → (t = 9 ∨ t = 49 ∨ t = 56) → W'.heap[j]? = some (.cells c t (0, 0))) (hb : Below w.heap.size w W') : Iv sec B0 B1 base w pre W' := by
  obtain ⟨h1, ⟨v, h2, h3⟩, h4⟩ := h
  exact ⟨hk _ _ _ h1 (by simp), ⟨v, hk _ _ _ h2 (by simp), owns_keep h3 (fun j c hj => hk j c 56 hj (by simp))⟩, hb⟩
theorem Iv.alloc (h : Iv sec B0 B1 base w pre W) (o : Obj) : Iv sec B0 B1 base w pre (W.alloc o) :=
  h.keep (fun _ _ _ hj _ => (Below.heap_alloc _ _ _ (lt_of_some hj)).trans hj) (h.b.alloc h.b.size o)
theorem Iv.drew (h : Iv sec B0 B1 base w pre W) : Iv sec B0 B1 base w pre W.drew := h.keep (fun _ _ _ hj _ => hj) h.b.drew
theorem Iv.cell (h : Iv sec B0 B1 base w pre W) {r : Nat} {c : Array Value} {t : TypeId} {fr : Nat × Nat} (j : Nat) (v : Value) (hr : w.heap.size ≤ r) (hc : W.heap[r]? = some (.cells c t fr)) (ht : ownT t) : Iv sec B0 B1 base w pre (W.setCell ⟨r, j, none⟩ v) := by
  refine h.keep (fun k c' t' hj ht' => ?_) (h.b.setCell (by exact hr) _)
  rw [Below.heap_setCell _ _ _ _ (fun e => ?_)]
  · exact hj
  · subst e
    rw [hc] at hj
    simp only [Option.some.injEq, Obj.cells.injEq] at hj
    obtain ⟨_, rfl, _⟩ := hj
    rcases ht with rfl | rfl <;> simp at ht'
theorem Iv.putObj (h : Iv sec B0 B1 base w pre W) {l : Nat} {o : Obj} (o' : Obj) (hl : w.heap.size ≤ l) (hc : W.heap[l]? = some o) (ho : o.isCells = false) : Iv sec B0 B1 base w pre (W.putObj l o') := by
  refine h.keep (fun k c' t' hj ht' => ?_) (h.b.grown (grownBy_putObj' W l o') h.b.size (fun k e => by cases e; exact hl))
  rw [World.putObj_heap_other (fun e => by subst e; rw [hc] at hj; cases hj; cases ho)]
  exact hj
end
theorem bears_Iv (sec : ByteArray) (B0 B1 base N0 : Nat) (w : World) (hN : w.heap.size ≤ N0) : Bears ownT N0 (Iv sec B0 B1 base w) :=
  ⟨fun _ _ o h => h.alloc o, fun _ _ h => h.drew, fun _ _ r c t fr j v h hr hc ht => h.cell j v (by omega) hc ht⟩

theorem Kp.refl (W : World) : Kp W W := ⟨Nat.le_refl _, fun _ _ _ _ h _ _ => h⟩
theorem Kp.trans {A B C : World} (h : Kp A B) (k : Kp B C) : Kp A C := ⟨Nat.le_trans h.size k.size, fun i c t fr hi h1 h2 => k.same i c t fr (h.same i c t fr hi h1 h2) h1 h2⟩
theorem Kp.putObj (W : World) (l : Nat) (o o' : Obj) (h : W.heap[l]? = some o) (ho : o.isCells = false) : Kp W (W.putObj l o') :=
  ⟨(grownBy_putObj' W l o').size, fun k c t fr hk _ _ => (World.putObj_heap_other (fun e => by subst e; rw [h] at hk; cases hk; cases ho)).trans hk⟩
theorem Kp.alloc {A W : World} (h : Kp A W) (o : Obj) : Kp A (W.alloc o) := h.trans ⟨by simp, fun k c t fr hk _ _ => (Below.heap_alloc _ _ _ (lt_of_some hk)).trans hk⟩
theorem Kp.drew {A W : World} (h : Kp A W) : Kp A W.drew := h.trans ⟨Nat.le_refl _, fun _ _ _ _ hk _ _ => hk⟩
theorem Kp.cell {A W : World} (h : Kp A W) {r : Nat} {c : Array Value} {t : TypeId} {fr : Nat × Nat} (hr : W.heap[r]? = some (.cells c t fr)) (ht : t = 49 ∨ t = 56) (j : Nat) (v : Value) : Kp A (W.setCell ⟨r, j, none⟩ v) :=
  h.trans ⟨by simp, fun k c' t' fr' hk h1 h2 => (Below.heap_setCell _ _ _ _ (fun e => by subst e; rw [hr] at hk; simp only [Option.some.injEq, Obj.cells.injEq] at hk; obtain ⟨_, rfl, _⟩ := hk; exact ht.elim h1 h2)).trans hk⟩

#print axioms bears_Iv

theorem heap_drewN (W : World) (n : Nat) : (W.drewN n).heap = W.heap := rfl

/-- A round that lengthens the last run. -/
theorem post_join {sec : ByteArray} {B0 B1 base B g cp nq : Nat} {w W : World} {pre : List Part} {x : Part} {R : List (Nat × Nat)} {cur : Array Value} {ea : Nat}
    (h1 : W.heap[B0]? = some (.cells #[.string sec] 9 (0, 0))) (h2 : W.heap[B1]? = some (.cells #[.slice (some ⟨g, 0, none⟩) R.length cp] 49 (0, 0))) (h3 : W.ownsRow base 56 2 (.slice (some ⟨g, 0, none⟩) R.length cp) R.length (flatR R)) (h4 : Below w.heap.size w W)
    (hg : W.heap[g]? = some (.cells cur 56 (0, 0))) (hbase : w.heap.size ≤ base) (hgb : base ≤ g) (hne : R ≠ []) (hs : foldR sec (pre ++ [x]) = R.dropLast ++ [((rat R (R.length - 1)).1, ea)]) :
    KeepsFrom B W ((W.drewN nq).setCell ⟨g, (R.length - 1) * 2 + 1, none⟩ (.int .i64 ea)) ∧ Kp W ((W.drewN nq).setCell ⟨g, (R.length - 1) * 2 + 1, none⟩ (.int .i64 ea)) ∧
      Iv sec B0 B1 base w (pre ++ [x]) ((W.drewN nq).setCell ⟨g, (R.length - 1) * 2 + 1, none⟩ (.int .i64 ea)) := by
  have hg' : (W.drewN nq).heap[g]? = some (.cells cur 56 (0, 0)) := hg
  have oth : ∀ k, k ≠ g → ((W.drewN nq).setCell ⟨g, (R.length - 1) * 2 + 1, none⟩ (.int .i64 ea)).heap[k]? = W.heap[k]? := fun k hk => Below.heap_setCell _ _ _ _ hk
  refine ⟨⟨by simp, fun k o _ hk ho => (oth k (fun e => by subst e; rw [hg] at hk; cases hk; cases ho)).trans hk⟩, ?_, ?_⟩
  · exact Kp.cell (A := W) (W := W.drewN nq) ⟨Nat.le_refl _, fun _ _ _ _ h _ _ => h⟩ hg' (.inr rfl) _ _
  · have hst := (World.ownsRow.stored (w := W.drewN nq) (e := 56) (size := 2) (g := g) (n := R.length) (cap := cp) (xs := flatR R) (base := base) h3 ((R.length - 1) * 2 + 1) (.int .i64 ea)).1
    rw [flatR_set hne] at hst
    refine ⟨(oth _ (fun e => by subst e; rw [hg] at h1; simp at h1)).trans h1, ⟨_, (oth _ (fun e => by subst e; rw [hg] at h2; simp at h2)).trans h2, ?_⟩, ?_⟩
    · rw [hs]
      have hl : (R.dropLast ++ [((rat R (R.length - 1)).1, ea)]).length = R.length := by
        have : R.length ≠ 0 := fun e => hne (List.eq_nil_of_length_eq_zero e)
        simp; omega
      rw [hl]; exact hst
    · have hb' : Below w.heap.size w (W.drewN nq) := ⟨h4.os, h4.tape, h4.output, h4.size, h4.block⟩
      exact hb'.setCell (p := ⟨g, (R.length - 1) * 2 + 1, none⟩) (by show w.heap.size ≤ g; omega) _

theorem own_shape {W : World} {base n : Nat} {v : Value} {xs : List Value} (h : W.ownsRow base 56 2 v n xs) : ∃ ao cp, v = .slice ao n cp := by
  rcases h.2 with ⟨h1, h2⟩ | ⟨g, cap, cur, a1, _⟩
  · subst h2; exact ⟨_, _, h1⟩
  · exact ⟨_, _, a1⟩
theorem own_some {W : World} {base n : Nat} {v : Value} {xs : List Value} (h : W.ownsRow base 56 2 v n xs) (hn : 0 < n) : ∃ g cp cur, v = .slice (some ⟨g, 0, none⟩) n cp ∧ base ≤ g ∧ W.heap[g]? = some (.cells cur 56 (0, 0)) ∧ n ≤ cp := by
  rcases h.2 with ⟨_, h2⟩ | ⟨g, cap, cur, a1, a2, a3, a4, _⟩
  · omega
  · exact ⟨g, cap, cur, a1, a2, a3, a4⟩

/-- A round that adds a run: behind the append and the store of the new slice. -/
theorem post_new {sec : ByteArray} {B0 B1 base B : Nat} {w W Wa W1 : World} {pre : List Part} {x : Part} {R : List (Nat × Nat)} {v v' : Value} {ha ea : Nat}
    (h1 : W.heap[B0]? = some (.cells #[.string sec] 9 (0, 0))) (h2 : W.heap[B1]? = some (.cells #[v] 49 (0, 0))) (h3 : W.ownsRow base 56 2 v R.length (flatR R)) (h4 : Below w.heap.size w W)
    (hWa : ∀ k, k < W.heap.size → Wa.heap[k]? = W.heap[k]?) (hWs : W.heap.size ≤ Wa.heap.size) (hWb : Below w.heap.size w Wa) (hgr : Wa.grownBy W1 v.ownBlock) (hown : W1.ownsRow base 56 2 v' (R.length + 1) (flatR R ++ [.int .i64 ha, .int .i64 ea]))
    (hbase : w.heap.size ≤ base) (hB1 : w.heap.size ≤ B1) (hs : foldR sec (pre ++ [x]) = R ++ [(ha, ea)]) :
    KeepsFrom B W (W1.setCell ⟨B1, 0, none⟩ v') ∧ Kp W (W1.setCell ⟨B1, 0, none⟩ v') ∧ Iv sec B0 B1 base w (pre ++ [x]) (W1.setCell ⟨B1, 0, none⟩ v') := by
  -- the block that the append may have written is the runs' own row
  have hrow : ∀ k, v.ownBlock = some k → base ≤ k ∧ ∃ cur, W.heap[k]? = some (.cells cur 56 (0, 0)) := by
    intro k hk
    rcases h3.2 with ⟨rfl, _⟩ | ⟨g, cap, cur, rfl, a2, a3, _⟩
    · simp [Value.ownBlock] at hk
    · simp [Value.ownBlock] at hk; subst hk; exact ⟨a2, cur, a3⟩
  have keep : ∀ (k : Nat) (o : Obj), W.heap[k]? = some o → (∀ c, o ≠ .cells c 56 (0, 0)) → W1.heap[k]? = some o := by
    intro k o hk hne
    have hlt := lt_of_some hk
    rw [hgr.block k (by omega) (fun e => ?_), hWa k hlt]
    · exact hk
    · obtain ⟨_, cur, hc⟩ := hrow k e.symm
      rw [hc] at hk; cases hk; exact hne cur rfl
  have hB1' : W1.heap[B1]? = some (.cells #[v] 49 (0, 0)) := keep _ _ h2 (fun c e => by cases e)
  have oth : ∀ k, k ≠ B1 → (W1.setCell ⟨B1, 0, none⟩ v').heap[k]? = W1.heap[k]? := fun k hk => Below.heap_setCell _ _ _ _ hk
  refine ⟨⟨by simp; have := hgr.size; omega, fun k o _ hk ho => ?_⟩, ⟨by simp; have := hgr.size; omega, fun k c t fr hk t1 t2 => ?_⟩, ?_⟩
  · have hk1 := keep k o hk (fun c e => by subst e; cases ho)
    exact (oth k (fun e => by subst e; rw [hB1'] at hk1; cases hk1; cases ho)).trans hk1
  · have hk1 := keep k _ hk (fun c' e => by cases e; exact t2 rfl)
    exact (oth k (fun e => by subst e; rw [hB1'] at hk1; cases hk1; exact t1 rfl)).trans hk1
  · refine ⟨?_, ⟨v', heap_setCell_same W1 B1 0 _ _ _ hB1', ?_⟩, ?_⟩
    · have hk1 := keep _ _ h1 (fun c e => by cases e)
      exact (oth _ (fun e => by subst e; rw [hB1'] at hk1; simp at hk1)).trans hk1
    · rw [hs, flatR_append, List.length_append]
      refine owns_keep hown (fun j c hj => (oth j (fun e => by subst e; rw [hB1'] at hj; simp at hj)).trans hj)
    · exact (hWb.grown hgr (Nat.le_trans h4.size hWs) (fun k e => by have := (hrow k e).1; omega)).setCell (p := ⟨B1, 0, none⟩) hB1 _
#print axioms post_new
end Go.Proofs.Qxb6603539aFmt.Ds

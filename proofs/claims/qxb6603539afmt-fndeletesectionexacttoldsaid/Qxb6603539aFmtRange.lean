/-
  A RANGE OVER AN ITERATOR THAT KEEPS ITS OWN STATE IN CELLS, for a body that is never left early. What the caller's invariant must bear is told by the element types of the blocks into which the iterator stores.
-/
import Derived.RangeFuncNested
import Derived.RangeFuncBound
import Derived.RangeFuncLeaves
import Derived.OwnWalkIn
namespace Go.Proofs.Qxb6603539aFmt.Ds
open Go.RowKit

/-- J bears what the iterator does: new blocks, draws, stores into blocks of its own, which are at N0 or beyond and whose element type is one of 'own'. -/
structure Bears {β : Type} (own : TypeId → Prop) (N0 : Nat) (J : β → World → Prop) : Prop where
  alloc : ∀ s W o, J s W → J s (W.alloc o)
  drew : ∀ s W, J s W → J s W.drew
  cell : ∀ s W r c t fr j v, J s W → N0 ≤ r → W.heap[r]? = some (.cells c t fr) → own t → J s (W.setCell ⟨r, j, none⟩ v)

/-- The iterator hands out just xs, whatever body bears its word. -/
def Gives {α : Type} (F : Fence) (n : Nat) (P : Program) (g : Nat) (lb : Array Value) (encs : α → Array Value) (own : TypeId → Prop) (Kp : World → World → Prop) (xs : List α) (w : World) : Prop :=
  ∀ (l : Nat) (J : List α → World → Prop) (W : World), Below w.heap.size w W → Bears own W.heap.size J →
    (∀ pre x W1, J pre W1 → pre ++ [x] <+: xs → YieldAt F (n - 1) P l (encs x) W1 fun e W' => e = .returned (.bool true) ∧ J (pre ++ [x]) W' ∧ Kp W1 W') →
    J [] W → CallsIn F n P g (#[.func (.yield l) #[] #[]] ++ lb) W fun e W' => (∃ v, e = .returned v) ∧ J xs W'

/-- How a round may end: it goes on. -/
def roundPost {α : Type} (B : Nat) (Kp : World → World → Prop) (I : List α → World → Prop) (s : List α) (W : World) : Exit → Act → World → Prop
  | .normal, _, W' => KeepsFrom B W W' ∧ Kp W W' ∧ I s W'
  | _, _, _ => False

variable {F : Fence} {n : Nat} {P : Program}

theorem rangeFunc_gives {α : Type} {g : Operand} {ps : Array Tmp} {assign body : Code} {Q : Exit → Act → World → Prop} {a : Act} {w : World}
    (hro : F.round = none) (h1 : 1 ≤ n) {gf : Nat} {lb : Array Value} (hg : a.eval g = .func (.func gf) #[] lb) (hFg : F.fn gf) (eg : ∀ args w, (callFunc gf args).run P w = .ok (.enter gf args) w)
    {encs : α → Array Value} {own : TypeId → Prop} {Kp : World → World → Prop} {xs : List α} {w0 : World} (hseq : Gives F (n - 1) P gf lb encs own Kp xs w0)
    (hKt : ∀ {A B C : World}, Kp A B → Kp B C → Kp A C) (hKb : ∀ (W : World) (l : Nat) (o o' : Obj), W.heap[l]? = some o → o.isCells = false → Kp W (W.putObj l o')) (hb0 : Below w0.heap.size w0 w) (hps : ∀ x, (encs x).size = ps.size)
    (I : List α → World → Prop) (hI : Bears own w.heap.size I) (hIp : ∀ s W l o o', I s W → w.heap.size ≤ l → W.heap[l]? = some o → o.isCells = false → I s (W.putObj l o')) (h0 : I [] w)
    (Ax : α → Act → World → Prop) (hAx : ∀ x a' W l o o', Ax x a' W → w.heap.size ≤ l → W.heap[l]? = some o → o.isCells = false → Ax x a' (W.putObj l o'))
    (hassign : ∀ (l : Nat) (pre : List α) (x : α) (W : World) (K : Act → World → Prop), I pre W → pre ++ [x] <+: xs → (∀ a' W', KeepsFrom w.heap.size W W' → Kp W W' → I pre W' → Ax x a' W' → K a' W') →
      assign.wpIn (F.inRound l) (n - 1 - 1) P (Exit.then K (fun _ _ _ => False)) { tmps := (ps.zip (encs x)).foldl (fun t (p, v) => t.setIfInBounds p v) a.tmps, defers := [] } W)
    (hbody : ∀ (l : Nat) (pre : List α) (x : α) (a' : Act) (W : World), I pre W → Ax x a' W → pre ++ [x] <+: xs → body.wpIn (F.inRound l) (n - 1 - 1) P (roundPost w.heap.size Kp I (pre ++ [x]) W) a' W)
    (hdone : ∀ (D : Nat) (W : World), w.heap.size ≤ D → I xs W → W.heap[D]? = some (.deferred (some [])) → Q .normal { a with defers := { target := .collected D, args := #[] } :: a.defers } W) :
    (Code.rangeFunc g ps assign body).wpIn F n P Q a w := by
  refine wpIn_rangeFunc ?_
  intro fn hfn
  rw [hro]
  obtain ⟨rc, hrc⟩ : ∃ rc : LoopState → Loop, rc = fun st => { state := st, pending := none, fn, tmps := a.tmps, params := ps, assign, body, defers := w.heap.size } := ⟨_, rfl⟩
  obtain ⟨W1, hW1⟩ : ∃ W1, (w.alloc (.deferred (some []))).alloc (.loop (rc .ready)) = W1 := ⟨_, rfl⟩
  have hsz1 : W1.heap.size = w.heap.size + 2 := by rw [← hW1]; simp
  have hL1 : W1.heap[w.heap.size + 1]? = some (.loop (rc .ready)) := by
    rw [← hW1]; have := World.alloc_heap_new (w.alloc (.deferred (some []))) (.loop (rc .ready)); rwa [World.size_alloc] at this
  have hD1 : W1.heap[w.heap.size]? = some (.deferred (some [])) := by
    rw [← hW1]; exact (Below.heap_alloc _ _ _ (by simp)).trans (World.alloc_heap_new w _)
  have hI1 : I [] W1 := by rw [← hW1]; exact hI.alloc _ _ _ (hI.alloc _ _ _ h0)
  have hb1 : Below w0.heap.size w0 W1 := by
    rw [← hW1]; exact hb0.trans ((((Below.refl _ w).alloc (Nat.le_refl _) _).alloc (by simp) _).mono hb0.size)
  refine ⟨w.heap.size + 1, [{ target := .collected w.heap.size, args := #[] }], W1, { target := .fn (.func gf) lb, args := #[.func (.yield (w.heap.size + 1)) #[] #[]] }, W1, gf,
    #[.func (.yield (w.heap.size + 1)) #[] #[]] ++ lb, W1, ?_, ?_, ?_, ?_, fun _ => h1, ?_⟩
  · rw [← hW1, hrc]; exact run_enterLoop_outer _ _ _ _ _
  · simp only [resolve, hg]
    simp [go_sem]
  · intro f' hf'; simp [Target.leads] at hf'; subst hf'; exact hFg
  · simp [invoke, go_sem, eg]
  -- the two blocks of the statement's own book-keeping lie as they lay
  have keep : ∀ (W : World) (r : Nat) (c : Array Value) (t : TypeId) (fr : Nat × Nat) (j : Nat) (v : Value) (k : Nat) (o : Obj), W.heap[r]? = some (.cells c t fr) → W.heap[k]? = some o → o.isCells = false → (W.setCell ⟨r, j, none⟩ v).heap[k]? = some o := by
    intro W r c t fr j v k o hr hk ho
    rw [Below.heap_setCell _ _ _ _ (fun e => by subst e; rw [hr] at hk; cases hk; cases ho)]
    exact hk
  have grow : ∀ (W : World) (o' : Obj) (k : Nat) (o : Obj), W.heap[k]? = some o → (W.alloc o').heap[k]? = some o := fun W o' k o hk =>
    (Below.heap_alloc W o' k (Array.getElem?_eq_some_iff.1 hk).1).trans hk
  refine (hseq (w.heap.size + 1) (fun pre W => I pre W ∧ W.heap[w.heap.size + 1]? = some (.loop (rc .ready)) ∧ W.heap[w.heap.size]? = some (.deferred (some []))) W1 hb1 ⟨?_, ?_, ?_⟩ ?_ ⟨hI1, hL1, hD1⟩).mono ?_
  · exact fun s W o h => ⟨hI.alloc _ _ _ h.1, grow _ _ _ _ h.2.1, grow _ _ _ _ h.2.2⟩
  · exact fun s W h => ⟨hI.drew _ _ h.1, h.2.1, h.2.2⟩
  · exact fun s W r c t fr j v h hr hc ht => ⟨hI.cell _ _ _ _ _ _ _ _ h.1 (by omega) hc ht, keep _ _ _ _ _ _ _ _ _ hc h.2.1 rfl, keep _ _ _ _ _ _ _ _ _ hc h.2.2 rfl⟩
  · -- one round
    rintro pre x W ⟨hi, hl, hd⟩ hpx
    have hy := run_yield (P := P) (args := encs x) hl (by rw [hrc]; exact hps x)
    rw [hrc] at hy
    refine ⟨fn, _, assign, body, hy, roundIn_of_wpIn hfn (hassign _ pre x W _ hi hpx ?_)⟩
    clear hy
    intro a' Wa hkf hkp hia hax
    have hla := hkf.same _ _ (by omega) hl rfl
    have hda := hkf.same _ _ (Nat.le_refl _) hd rfl
    have hlt : w.heap.size + 1 < Wa.heap.size := (Array.getElem?_eq_some_iff.1 hla).1
    refine ⟨_, run_beginRound hla (by rw [hrc]), ?_⟩
    have hl2 : (Wa.putObj (w.heap.size + 1) (.loop { rc .ready with state := .busy })).heap[w.heap.size + 1]? = some (.loop { rc .ready with state := .busy }) := World.putObj_heap_same hlt
    have hd2 : (Wa.putObj (w.heap.size + 1) (.loop { rc .ready with state := .busy })).heap[w.heap.size]? = some (.deferred (some [])) := (World.putObj_heap_other (by omega)).trans hda
    refine wpIn_mono (hbody _ pre x a' _ (hIp _ _ _ _ _ hia (by omega) hla rfl) (hAx _ _ _ _ _ _ hax (by omega) hla rfl) hpx) ?_
    rintro e a3 W3 hp
    cases e with
    | normal =>
      obtain ⟨hk3, hkp3, hi3⟩ := hp
      have hl3 := hk3.same _ _ (by omega) hl2 rfl
      have hd3 := hk3.same _ _ (Nat.le_refl _) hd2 rfl
      have hr := run_endRound (P := P) none hl3
      have hl4 : (W3.putObj (w.heap.size + 1) (.loop (rc .ready))).heap[w.heap.size + 1]? = some (.loop (rc .ready)) := World.putObj_heap_same (Array.getElem?_eq_some_iff.1 hl3).1
      have hd4 : (W3.putObj (w.heap.size + 1) (.loop (rc .ready))).heap[w.heap.size]? = some (.deferred (some [])) := (World.putObj_heap_other (by omega)).trans hd3
      have hkb : Kp Wa W3 := hKt (hKb _ _ _ _ hla rfl) hkp3
      have hres : (Instr.endRound (w.heap.size + 1) none).run P W3 = .ok (.bool true) (W3.putObj (w.heap.size + 1) (.loop (rc .ready))) := by rw [hrc] at hr ⊢; exact hr
      exact ⟨_, _, hres, rfl, ⟨hIp _ _ _ _ _ hi3 (by omega) hl3 rfl, hl4, hd4⟩, hKt (hKt hkp hkb) (hKb _ _ _ _ hl3 rfl)⟩
    | ret => exact hp.elim
    | exit id => exact hp.elim
    | goto t => exact hp.elim
    | panic ch => exact hp.elim
    | outgrown => exact hp.elim
  · -- behind the iterator
    rintro e W2 ⟨⟨v, rfl⟩, hi, hl, hd⟩
    have hr := run_endLoop (P := P) hl (by rw [hrc]; simp)
    refine ⟨none, _, by rw [hrc] at hr; exact hr, ?_⟩
    exact hdone _ _ (Nat.le_refl _) (hIp _ _ _ _ _ hi (by omega) hl rfl) ((World.putObj_heap_other (by omega)).trans hd)

#print axioms rangeFunc_gives
end Go.Proofs.Qxb6603539aFmt.Ds

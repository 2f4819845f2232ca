/-
  A RANGE OVER AN ITERATOR THAT KEEPS ITS OWN STATE IN CELLS, for a body that is never left early; also within a round of another such range. What the caller's invariant must bear is told by the element types of the blocks into which the iterator stores.
-/
import Derived.RangeFuncNested
import Derived.RangeFuncBound
import Derived.RangeFuncLeaves
import Derived.OwnWalkIn
namespace Go.Proofs.Qxb6603539a.Ds
open Go.RowKit

/-- J bears what the iterator does: new blocks, draws, stores into blocks of its own, which are at N0 or beyond and whose element type is one of 'own'; turns of objects that are no cells, at N0 or beyond. -/
structure Bears {β : Type} (own : TypeId → Prop) (N0 : Nat) (J : β → World → Prop) : Prop where
  alloc : ∀ s W o, J s W → J s (W.alloc o)
  drew : ∀ s W, J s W → J s W.drew
  cell : ∀ s W r c t fr j v, J s W → N0 ≤ r → W.heap[r]? = some (.cells c t fr) → own t → J s (W.setCell ⟨r, j, none⟩ v)
  put : ∀ s W l o o', J s W → N0 ≤ l → W.heap[l]? = some o → o.isCells = false → J s (W.putObj l o')
theorem Bears.mono {β : Type} {own : TypeId → Prop} {N0 N1 : Nat} {J : β → World → Prop} (h : Bears own N0 J) (hn : N0 ≤ N1) : Bears own N1 J :=
  ⟨h.alloc, h.drew, fun s W r c t fr j v a b => h.cell s W r c t fr j v a (Nat.le_trans hn b), fun s W l o o' a b => h.put s W l o o' a (Nat.le_trans hn b)⟩

/-- The iterator hands out just xs, whatever body bears its word. -/
def Gives {α : Type} (F : Fence) (n : Nat) (P : Program) (g : Nat) (lb : Array Value) (encs : α → Array Value) (own : TypeId → Prop) (Kp : World → World → Prop) (xs : List α) (w : World) : Prop :=
  ∀ (l : Nat) (J : List α → World → Prop) (W : World), Below w.heap.size w W → Bears own W.heap.size J →
    (∀ pre x W1, J pre W1 → pre ++ [x] <+: xs → YieldAt F (n - 1) P l (encs x) W1 fun e W' => e = .returned (.bool true) ∧ J (pre ++ [x]) W' ∧ Kp W1 W' ∧ KeepsFrom W.heap.size W1 W') →
    J [] W → CallsIn F n P g (#[.func (.yield l) #[] #[]] ++ lb) W fun e W' => (∃ v, e = .returned v) ∧ J xs W'

/-- How a round may end: it goes on. -/
def roundPost {α : Type} (B : Nat) (Kp : World → World → Prop) (I : List α → World → Prop) (s : List α) (W : World) : Exit → Act → World → Prop
  | .normal, _, W' => KeepsFrom B W W' ∧ Kp W W' ∧ I s W'
  | _, _, _ => False

variable {F : Fence} {n : Nat} {P : Program}

theorem keepsFrom_put {B l : Nat} {o o' : Obj} {W : World} (h : W.heap[l]? = some o) (hl : l < B) : KeepsFrom B W (W.putObj l o') := by
  have hlt : l < W.heap.size := (Array.getElem?_eq_some_iff.1 h).1
  refine ⟨by simp [World.putObj], fun k ob hk hb _ => ?_⟩
  rw [World.putObj_heap_other (by omega)]; exact hb
theorem keepsFrom_mono {B B' : Nat} {W W' : World} (h : KeepsFrom B W W') (hb : B ≤ B') : KeepsFrom B' W W' := ⟨h.size, fun k o hk => h.same k o (Nat.le_trans hb hk)⟩

/-- THE HEART OF BOTH LAWS: the iterator is called while the record lies at l0, ready; D: whatever else of the statement's own that is no cells. -/
theorem range_core {α : Type} {gf : Nat} {lb : Array Value} {encs : α → Array Value} {own : TypeId → Prop} {Kp : World → World → Prop} {xs : List α} {w0 w W1 : World} (hseq : Gives F n P gf lb encs own Kp xs w0)
    (hKt : ∀ {A B C : World}, Kp A B → Kp B C → Kp A C) (hKb : ∀ (W : World) (l : Nat) (o o' : Obj), W.heap[l]? = some o → o.isCells = false → Kp W (W.putObj l o'))
    {fn : FuncId} {tmps : Array Value} {ps : Array Tmp} {assign body : Code} {dfs l : Nat} (hfn : F.fn fn) (hps : ∀ x, (encs x).size = ps.size) {rc : LoopState → Loop} (hrc : rc = fun st => { state := st, pending := none, fn, tmps, params := ps, assign, body, defers := dfs })
    (hb1 : Below w0.heap.size w0 W1) (hw : w.heap.size ≤ l) (hlW : l < W1.heap.size) (hwW : w.heap.size ≤ W1.heap.size) (hL1 : W1.heap[l]? = some (.loop (rc .ready)))
    (I : List α → World → Prop) (hI : Bears own w.heap.size I) (h0 : I [] W1)
    (Ax : α → Act → World → Prop) (hAx : ∀ x a' W l o o', Ax x a' W → w.heap.size ≤ l → W.heap[l]? = some o → o.isCells = false → Ax x a' (W.putObj l o'))
    (hassign : ∀ (pre : List α) (x : α) (W : World) (K : Act → World → Prop), I pre W → pre ++ [x] <+: xs → (∀ a' W', KeepsFrom w.heap.size W W' → Kp W W' → I pre W' → Ax x a' W' → K a' W') →
      assign.wpIn (F.inRound l) (n - 1) P (Exit.then K (fun _ _ _ => False)) { tmps := (ps.zip (encs x)).foldl (fun t (p, v) => t.setIfInBounds p v) tmps, defers := [] } W)
    (hbody : ∀ (pre : List α) (x : α) (a' : Act) (W : World), (∃ r, W.heap[l]? = some (.loop r)) → I pre W → Ax x a' W → pre ++ [x] <+: xs → body.wpIn (F.inRound l) (n - 1) P (roundPost w.heap.size Kp I (pre ++ [x]) W) a' W)
    (D : Nat) (oD : Obj) (use : Prop) (hwD : use → w.heap.size ≤ D) (hDl : D ≠ l) (hD1 : use → W1.heap[D]? = some oD) (hDc : oD.isCells = false) (hDW : D < W1.heap.size) :
    CallsIn F n P gf (#[.func (.yield l) #[] #[]] ++ lb) W1 fun e W' => (∃ v, e = .returned v) ∧ I xs W' ∧ W'.heap[l]? = some (.loop (rc .ready)) ∧ (use → W'.heap[D]? = some oD) := by
  -- the two blocks of the statement's own book-keeping lie as they lay
  have keep : ∀ (W : World) (r : Nat) (c : Array Value) (t : TypeId) (fr : Nat × Nat) (j : Nat) (v : Value) (k : Nat) (o : Obj), W.heap[r]? = some (.cells c t fr) → W.heap[k]? = some o → o.isCells = false → (W.setCell ⟨r, j, none⟩ v).heap[k]? = some o := by
    intro W r c t fr j v k o hr hk ho
    rw [Below.heap_setCell _ _ _ _ (fun e => by subst e; rw [hr] at hk; cases hk; cases ho)]
    exact hk
  have grow : ∀ (W : World) (o' : Obj) (k : Nat) (o : Obj), W.heap[k]? = some o → (W.alloc o').heap[k]? = some o := fun W o' k o hk =>
    (Below.heap_alloc W o' k (Array.getElem?_eq_some_iff.1 hk).1).trans hk
  refine (hseq l (fun pre W => I pre W ∧ W.heap[l]? = some (.loop (rc .ready)) ∧ (use → W.heap[D]? = some oD)) W1 hb1 ⟨?_, ?_, ?_, ?_⟩ ?_ ⟨h0, hL1, hD1⟩).mono (fun e W' h => h)
  · exact fun s W o h => ⟨hI.alloc _ _ _ h.1, grow _ _ _ _ h.2.1, fun u => grow _ _ _ _ (h.2.2 u)⟩
  · exact fun s W h => ⟨hI.drew _ _ h.1, h.2.1, h.2.2⟩
  · exact fun s W r c t fr j v h hr hc ht => ⟨hI.cell _ _ _ _ _ _ _ _ h.1 (by omega) hc ht, keep _ _ _ _ _ _ _ _ _ hc h.2.1 rfl, fun u => keep _ _ _ _ _ _ _ _ _ hc (h.2.2 u) hDc⟩
  · exact fun s W k o o' h hk hc ho => ⟨hI.put _ _ _ _ _ h.1 (by omega) hc ho, (World.putObj_heap_other (by omega)).trans h.2.1, fun u => (World.putObj_heap_other (by omega)).trans (h.2.2 u)⟩
  · -- one round
    rintro pre x W ⟨hi, hl, hd⟩ hpx
    have hy := run_yield (P := P) (args := encs x) hl (by rw [hrc]; exact hps x)
    rw [hrc] at hy
    refine ⟨fn, _, assign, body, hy, roundIn_of_wpIn hfn (hassign pre x W _ hi hpx ?_)⟩
    clear hy
    intro a' Wa hkf hkp hia hax
    have hla := hkf.same _ _ hw hl rfl
    have hda : use → _ := fun u => hkf.same _ _ (hwD u) (hd u) hDc
    have hlt : l < Wa.heap.size := (Array.getElem?_eq_some_iff.1 hla).1
    refine ⟨_, run_beginRound hla (by rw [hrc]), ?_⟩
    have hl2 : (Wa.putObj l (.loop { rc .ready with state := .busy })).heap[l]? = some (.loop { rc .ready with state := .busy }) := World.putObj_heap_same hlt
    have hd2 : use → (Wa.putObj l (.loop { rc .ready with state := .busy })).heap[D]? = some oD := fun u => (World.putObj_heap_other hDl).trans (hda u)
    refine wpIn_mono (hbody pre x a' _ ⟨_, hl2⟩ (hI.put _ _ _ _ _ hia hw hla rfl) (hAx _ _ _ _ _ _ hax hw hla rfl) hpx) ?_
    rintro e a3 W3 hp
    cases e with
    | normal =>
      obtain ⟨hk3, hkp3, hi3⟩ := hp
      have hl3 := hk3.same _ _ hw hl2 rfl
      have hd3 : use → _ := fun u => hk3.same _ _ (hwD u) (hd2 u) hDc
      have hr := run_endRound (P := P) none hl3
      have hl4 : (W3.putObj l (.loop (rc .ready))).heap[l]? = some (.loop (rc .ready)) := World.putObj_heap_same (Array.getElem?_eq_some_iff.1 hl3).1
      have hd4 : use → (W3.putObj l (.loop (rc .ready))).heap[D]? = some oD := fun u => (World.putObj_heap_other hDl).trans (hd3 u)
      have hkb : Kp Wa W3 := hKt (hKb _ _ _ _ hla rfl) hkp3
      have hres : (Instr.endRound l none).run P W3 = .ok (.bool true) (W3.putObj l (.loop (rc .ready))) := by rw [hrc] at hr ⊢; exact hr
      refine ⟨_, _, hres, rfl, ⟨hI.put _ _ _ _ _ hi3 hw hl3 rfl, hl4, hd4⟩, hKt (hKt hkp hkb) (hKb _ _ _ _ hl3 rfl), ?_⟩
      exact (((keepsFrom_mono hkf hwW).trans (keepsFrom_put hla hlW)).trans (keepsFrom_mono hk3 hwW)).trans (keepsFrom_put hl3 hlW)
    | ret => exact hp.elim
    | exit id => exact hp.elim
    | goto t => exact hp.elim
    | panic ch => exact hp.elim
    | outgrown => exact hp.elim

theorem rangeFunc_gives {α : Type} {g : Operand} {ps : Array Tmp} {assign body : Code} {Q : Exit → Act → World → Prop} {a : Act} {w : World}
    (hro : F.round = none) (h1 : 1 ≤ n) {gf : Nat} {lb : Array Value} (hg : a.eval g = .func (.func gf) #[] lb) (hFg : F.fn gf) (eg : ∀ args w, (callFunc gf args).run P w = .ok (.enter gf args) w)
    {encs : α → Array Value} {own : TypeId → Prop} {Kp : World → World → Prop} {xs : List α} {w0 : World} (hseq : Gives F (n - 1) P gf lb encs own Kp xs w0)
    (hKt : ∀ {A B C : World}, Kp A B → Kp B C → Kp A C) (hKb : ∀ (W : World) (l : Nat) (o o' : Obj), W.heap[l]? = some o → o.isCells = false → Kp W (W.putObj l o')) (hb0 : Below w0.heap.size w0 w) (hps : ∀ x, (encs x).size = ps.size)
    (I : List α → World → Prop) (hI : Bears own w.heap.size I) (h0 : I [] w)
    (Ax : α → Act → World → Prop) (hAx : ∀ x a' W l o o', Ax x a' W → w.heap.size ≤ l → W.heap[l]? = some o → o.isCells = false → Ax x a' (W.putObj l o'))
    (hassign : ∀ (l : Nat) (pre : List α) (x : α) (W : World) (K : Act → World → Prop), I pre W → pre ++ [x] <+: xs → (∀ a' W', KeepsFrom w.heap.size W W' → Kp W W' → I pre W' → Ax x a' W' → K a' W') →
      assign.wpIn (F.inRound l) (n - 1 - 1) P (Exit.then K (fun _ _ _ => False)) { tmps := (ps.zip (encs x)).foldl (fun t (p, v) => t.setIfInBounds p v) a.tmps, defers := [] } W)
    (hbody : ∀ (l : Nat) (pre : List α) (x : α) (a' : Act) (W : World), w.heap.size ≤ l → (∃ r, W.heap[l]? = some (.loop r)) → I pre W → Ax x a' W → pre ++ [x] <+: xs → body.wpIn (F.inRound l) (n - 1 - 1) P (roundPost w.heap.size Kp I (pre ++ [x]) W) a' W)
    (hdone : ∀ (D : Nat) (W : World), w.heap.size ≤ D → I xs W → W.heap[D]? = some (.deferred (some [])) → Q .normal { a with defers := { target := .collected D, args := #[] } :: a.defers } W) :
    (Code.rangeFunc g ps assign body).wpIn F n P Q a w := by
  refine wpIn_rangeFunc ?_
  intro fn hfn
  rw [hro]
  obtain ⟨rc, hrc⟩ : ∃ rc : LoopState → Loop, rc = fun st => { state := st, pending := none, fn, tmps := a.tmps, params := ps, assign, body, defers := w.heap.size } := ⟨_, rfl⟩
  obtain ⟨W1, hW1⟩ : ∃ W1, (w.alloc (.deferred (some []))).alloc (.loop (rc .ready)) = W1 := ⟨_, rfl⟩
  have hsz1 : W1.heap.size = w.heap.size + 2 := by rw [← hW1]; simp
  have hL1 : W1.heap[w.heap.size + 1]? = some (.loop (rc .ready)) := by
    rw [← hW1]; have := World.alloc_heap_new (w.alloc (.deferred (some []))) (.loop (rc .ready)); rwa [World.size_alloc] at this
  have hD1 : W1.heap[w.heap.size]? = some (.deferred (some [])) := by
    rw [← hW1]; exact (Below.heap_alloc _ _ _ (by simp)).trans (World.alloc_heap_new w _)
  have hI1 : I [] W1 := by rw [← hW1]; exact hI.alloc _ _ _ (hI.alloc _ _ _ h0)
  have hb1 : Below w0.heap.size w0 W1 := by
    rw [← hW1]; exact hb0.trans ((((Below.refl _ w).alloc (Nat.le_refl _) _).alloc (by simp) _).mono hb0.size)
  refine ⟨w.heap.size + 1, [{ target := .collected w.heap.size, args := #[] }], W1, { target := .fn (.func gf) lb, args := #[.func (.yield (w.heap.size + 1)) #[] #[]] }, W1, gf,
    #[.func (.yield (w.heap.size + 1)) #[] #[]] ++ lb, W1, ?_, ?_, ?_, ?_, fun _ => h1, ?_⟩
  · rw [← hW1, hrc]; exact run_enterLoop_outer _ _ _ _ _
  · simp only [resolve, hg]
    simp [go_sem]
  · intro f' hf'; simp [Target.leads] at hf'; subst hf'; exact hFg
  · simp [invoke, go_sem, eg]
  refine (range_core (w := w) hseq hKt hKb hfn hps hrc hb1 (by omega) (by omega) (by omega) hL1 I hI hI1 Ax hAx (hassign _) (fun pre x a' W => hbody _ pre x a' W (by omega)) w.heap.size _ True (fun _ => Nat.le_refl _) (by omega) (fun _ => hD1) rfl (by omega)).mono ?_
  rintro e W2 ⟨⟨v, rfl⟩, hi, hl, hd⟩
  have hr := run_endLoop (P := P) hl (by rw [hrc]; simp)
  refine ⟨none, _, by rw [hrc] at hr; exact hr, ?_⟩
  exact hdone _ _ (Nat.le_refl _) (hI.put _ _ _ _ _ hi (by omega) hl rfl) ((World.putObj_heap_other (by omega)).trans (hd trivial))

/-- The same within a round of another range. -/
theorem rangeFunc_nested {α : Type} {g : Operand} {ps : Array Tmp} {assign body : Code} {Q : Exit → Act → World → Prop} {a : Act} {w : World} {l₀ : Nat} {r₀ : Loop}
    (hro : F.round = some l₀) (hl0 : w.heap[l₀]? = some (.loop r₀)) (h1 : 1 ≤ n) {gf : Nat} {lb : Array Value} (hg : a.eval g = .func (.func gf) #[] lb) (hFg : F.fn gf) (eg : ∀ args w, (callFunc gf args).run P w = .ok (.enter gf args) w)
    {encs : α → Array Value} {own : TypeId → Prop} {Kp : World → World → Prop} {xs : List α} {w0 : World} (hseq : Gives F (n - 1) P gf lb encs own Kp xs w0)
    (hKt : ∀ {A B C : World}, Kp A B → Kp B C → Kp A C) (hKb : ∀ (W : World) (l : Nat) (o o' : Obj), W.heap[l]? = some o → o.isCells = false → Kp W (W.putObj l o')) (hb0 : Below w0.heap.size w0 w) (hps : ∀ x, (encs x).size = ps.size)
    (I : List α → World → Prop) (hI : Bears own w.heap.size I) (h0 : I [] w)
    (Ax : α → Act → World → Prop) (hAx : ∀ x a' W l o o', Ax x a' W → w.heap.size ≤ l → W.heap[l]? = some o → o.isCells = false → Ax x a' (W.putObj l o'))
    (hassign : ∀ (l : Nat) (pre : List α) (x : α) (W : World) (K : Act → World → Prop), I pre W → pre ++ [x] <+: xs → (∀ a' W', KeepsFrom w.heap.size W W' → Kp W W' → I pre W' → Ax x a' W' → K a' W') →
      assign.wpIn (F.inRound l) (n - 1 - 1) P (Exit.then K (fun _ _ _ => False)) { tmps := (ps.zip (encs x)).foldl (fun t (p, v) => t.setIfInBounds p v) a.tmps, defers := [] } W)
    (hbody : ∀ (l : Nat) (pre : List α) (x : α) (a' : Act) (W : World), w.heap.size ≤ l → (∃ r, W.heap[l]? = some (.loop r)) → I pre W → Ax x a' W → pre ++ [x] <+: xs → body.wpIn (F.inRound l) (n - 1 - 1) P (roundPost w.heap.size Kp I (pre ++ [x]) W) a' W)
    (hdone : ∀ (W : World), I xs W → Q .normal a W) :
    (Code.rangeFunc g ps assign body).wpIn F n P Q a w := by
  refine wpIn_rangeFunc ?_
  intro fn hfn
  rw [hro]
  obtain ⟨rc, hrc⟩ : ∃ rc : LoopState → Loop, rc = fun st => { state := st, pending := none, fn, tmps := a.tmps, params := ps, assign, body, defers := r₀.defers } := ⟨_, rfl⟩
  obtain ⟨W1, hW1⟩ : ∃ W1, w.alloc (.loop (rc .ready)) = W1 := ⟨_, rfl⟩
  have hsz1 : W1.heap.size = w.heap.size + 1 := by rw [← hW1]; simp
  have hl0s : l₀ < w.heap.size := (Array.getElem?_eq_some_iff.1 hl0).1
  have hL1 : W1.heap[w.heap.size]? = some (.loop (rc .ready)) := by rw [← hW1]; exact World.alloc_heap_new w _
  have hI1 : I [] W1 := by rw [← hW1]; exact hI.alloc _ _ _ h0
  have hb1 : Below w0.heap.size w0 W1 := by
    rw [← hW1]; exact hb0.trans (((Below.refl _ w).alloc (Nat.le_refl _) _).mono hb0.size)
  refine ⟨w.heap.size, [], W1, { target := .fn (.func gf) lb, args := #[.func (.yield w.heap.size) #[] #[]] }, W1, gf,
    #[.func (.yield w.heap.size) #[] #[]] ++ lb, W1, ?_, ?_, ?_, ?_, fun _ => h1, ?_⟩
  · rw [← hW1, hrc]; exact run_enterLoop_inner hl0 _ _ _ _ _
  · simp only [resolve, hg]
    simp [go_sem]
  · intro f' hf'; simp [Target.leads] at hf'; subst hf'; exact hFg
  · simp [invoke, go_sem, eg]
  refine (range_core (w := w) hseq hKt hKb hfn hps hrc hb1 (Nat.le_refl _) (by omega) (by omega) hL1 I hI hI1 Ax hAx (hassign _) (fun pre x a' W => hbody _ pre x a' W (Nat.le_refl _)) l₀ (.deferred none) False (fun h => h.elim) (by omega) (fun h => h.elim) rfl (by omega)).mono ?_
  rintro e W2 ⟨⟨v, rfl⟩, hi, hl, -⟩
  have hr := run_endLoop (P := P) hl (by rw [hrc]; simp)
  refine ⟨none, _, by rw [hrc] at hr; exact hr, ?_⟩
  exact hdone _ (hI.put _ _ _ _ _ hi (Nat.le_refl _) hl rfl)
#print axioms rangeFunc_nested
#print axioms rangeFunc_gives
end Go.Proofs.Qxb6603539a.Ds

import Derived.Test.Qxb6603539aRange
namespace Go.Proofs.Qxb6603539a.Ds
open Go.RowKit
variable {F : Fence} {n : Nat} {P : Program}
/-- 'rangeFunc_gives', the frame of a round told out of the statement's own temporaries. -/
theorem rangeFunc_givesT {α : Type} {g : Operand} {ps : Array Tmp} {assign body : Code} {Q : Exit → Act → World → Prop} {a : Act} {w : World}
    (AxF : Array Value → α → Act → World → Prop)
    (hro : F.round = none) (h1 : 1 ≤ n) {gf : Nat} {lb : Array Value} (hg : a.eval g = .func (.func gf) #[] lb) (hFg : F.fn gf) (eg : ∀ args w, (callFunc gf args).run P w = .ok (.enter gf args) w)
    {encs : α → Array Value} {own : TypeId → Prop} {Kp : World → World → Prop} {xs : List α} {w0 : World} (hseq : Gives F (n - 1) P gf lb encs own Kp xs w0)
    (hKt : ∀ {A B C : World}, Kp A B → Kp B C → Kp A C) (hKb : ∀ (W : World) (l : Nat) (o o' : Obj), W.heap[l]? = some o → o.isCells = false → Kp W (W.putObj l o')) (hb0 : Below w0.heap.size w0 w) (hps : ∀ x, (encs x).size = ps.size)
    (I : List α → World → Prop) (hI : Bears own w.heap.size I) (h0 : I [] w)
    (hAx : ∀ tm x a' W l o o', AxF tm x a' W → w.heap.size ≤ l → W.heap[l]? = some o → o.isCells = false → AxF tm x a' (W.putObj l o'))
    (hassign : ∀ (l : Nat) (pre : List α) (x : α) (W : World) (K : Act → World → Prop), I pre W → pre ++ [x] <+: xs → (∀ a' W', KeepsFrom w.heap.size W W' → Kp W W' → I pre W' → AxF a.tmps x a' W' → K a' W') →
      assign.wpIn (F.inRound l) (n - 1 - 1) P (Exit.then K (fun _ _ _ => False)) { tmps := (ps.zip (encs x)).foldl (fun t (p, v) => t.setIfInBounds p v) a.tmps, defers := [] } W)
    (hbody : ∀ (l : Nat) (pre : List α) (x : α) (a' : Act) (W : World), w.heap.size ≤ l → (∃ r, W.heap[l]? = some (.loop r)) → I pre W → AxF a.tmps x a' W → pre ++ [x] <+: xs → body.wpIn (F.inRound l) (n - 1 - 1) P (roundPost w.heap.size Kp I (pre ++ [x]) W) a' W)
    (hdone : ∀ (D : Nat) (W : World), w.heap.size ≤ D → I xs W → W.heap[D]? = some (.deferred (some [])) → Q .normal { a with defers := { target := .collected D, args := #[] } :: a.defers } W) :
    (Code.rangeFunc g ps assign body).wpIn F n P Q a w :=
  rangeFunc_gives hro h1 hg hFg eg hseq hKt hKb hb0 hps I hI h0 (AxF a.tmps) (hAx a.tmps) hassign hbody hdone
theorem rangeFunc_nestedT {α : Type} {g : Operand} {ps : Array Tmp} {assign body : Code} {Q : Exit → Act → World → Prop} {a : Act} {w : World} {l₀ : Nat} {r₀ : Loop}
    (AxF : Array Value → α → Act → World → Prop)
    (hro : F.round = some l₀) (hl0 : w.heap[l₀]? = some (.loop r₀)) (h1 : 1 ≤ n) {gf : Nat} {lb : Array Value} (hg : a.eval g = .func (.func gf) #[] lb) (hFg : F.fn gf) (eg : ∀ args w, (callFunc gf args).run P w = .ok (.enter gf args) w)
    {encs : α → Array Value} {own : TypeId → Prop} {Kp : World → World → Prop} {xs : List α} {w0 : World} (hseq : Gives F (n - 1) P gf lb encs own Kp xs w0)
    (hKt : ∀ {A B C : World}, Kp A B → Kp B C → Kp A C) (hKb : ∀ (W : World) (l : Nat) (o o' : Obj), W.heap[l]? = some o → o.isCells = false → Kp W (W.putObj l o')) (hb0 : Below w0.heap.size w0 w) (hps : ∀ x, (encs x).size = ps.size)
    (I : List α → World → Prop) (hI : Bears own w.heap.size I) (h0 : I [] w)
    (hAx : ∀ tm x a' W l o o', AxF tm x a' W → w.heap.size ≤ l → W.heap[l]? = some o → o.isCells = false → AxF tm x a' (W.putObj l o'))
    (hassign : ∀ (l : Nat) (pre : List α) (x : α) (W : World) (K : Act → World → Prop), I pre W → pre ++ [x] <+: xs → (∀ a' W', KeepsFrom w.heap.size W W' → Kp W W' → I pre W' → AxF a.tmps x a' W' → K a' W') →
      assign.wpIn (F.inRound l) (n - 1 - 1) P (Exit.then K (fun _ _ _ => False)) { tmps := (ps.zip (encs x)).foldl (fun t (p, v) => t.setIfInBounds p v) a.tmps, defers := [] } W)
    (hbody : ∀ (l : Nat) (pre : List α) (x : α) (a' : Act) (W : World), w.heap.size ≤ l → (∃ r, W.heap[l]? = some (.loop r)) → I pre W → AxF a.tmps x a' W → pre ++ [x] <+: xs → body.wpIn (F.inRound l) (n - 1 - 1) P (roundPost w.heap.size Kp I (pre ++ [x]) W) a' W)
    (hdone : ∀ (W : World), I xs W → Q .normal a W) :
    (Code.rangeFunc g ps assign body).wpIn F n P Q a w :=
  rangeFunc_nested hro hl0 h1 hg hFg eg hseq hKt hKb hb0 hps I hI h0 (AxF a.tmps) (hAx a.tmps) hassign hbody hdone
end Go.Proofs.Qxb6603539a.Ds

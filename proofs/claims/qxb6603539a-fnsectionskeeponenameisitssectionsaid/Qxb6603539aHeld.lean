/-
  A REGION THAT DRAWS ITS ORDER, INSIDE A ROUND OF A RANGE OVER A FUNCTION: no operation of it is a 'defer', so what holds of it outside of a round holds of it there.
-/
import Derived.Deep.RegionHeld
import Derived.OrdersIn
import Derived.OwnWalkIn
namespace Go.Proofs.Qxb6603539a.Ds
open Go.RowKit

section
variable {l n : Nat} {P : Program} {ops : Array Oper} {md : Region.Mode} {Q : Exit → Act → World → Prop}
def noDefer (o : Oper) : Bool := match o.op with | .defer _ => false | _ => true
theorem noDefer_ne {o : Oper} (h : noDefer o = true) : ∀ c, o.op ≠ .defer c := fun c e => by
  unfold noDefer at h; rw [e] at h; cases h

theorem op_round {o : Oper} {a : Act} {w : World} {K : Act → World → Prop} (hd : noDefer o = true) (h : o.wp P a w K Q) : o.wpIn (Fence.wide.inRound l) n P a w K Q := by
  refine ⟨fun _ _ => trivial, ?_⟩
  rw [Oper.semAt_plain _ _ _ (noDefer_ne hd)]
  unfold Oper.wp at h
  generalize (execOp a.eval o).run P w = r at *
  cases r with
  | ok x w' =>
    cases x <;> simp only [Oper.upon] at h <;> simp only [Oper.uponIn]
    case value u => exact h
    case skip => exact h
    case defer d => exact h
    case enter f args => exact ⟨fun h => by simp [Fence.wide] at h, (callsIn_wide (n := n - 1)).2 h⟩
    case row row args =>
      refine ⟨fun h => by simp [Fence.wide] at h, ?_⟩
      exact fun c cs _ => let ⟨v, w', r, s⟩ := h c cs; ⟨v, w', r, stepsIn_wide.2 s⟩
  | halt x w' =>
    cases x <;> simp only [Oper.upon] at h <;> simp only [Oper.uponIn]
    case panic v => exact h

theorem wpOp_round {i : Nat} {a : Act} {w : World} {K : Act → World → Prop} (hall : ∀ (j : Nat) (o : Oper), ops[j]? = some o → noDefer o = true) (hlet : ¬ LetsOut Q) (h : wpOp P ops Q i K a w) : wpOpIn (Fence.wide.inRound l) n P ops Q i K a w := by
  unfold wpOp at h
  unfold wpOpIn
  split
  · rename_i ho; simp only [ho] at h; exact h
  · rename_i o ho
    simp only [ho] at h
    split
    · rename_i hw; simp only [hw, if_true] at h
      rcases h with h | h
      · exact op_round (hall i o ho) h
      · exact absurd h.2 hlet
    · rename_i hw; simp only [hw] at h; exact ⟨fun _ _ => trivial, h⟩

theorem any_round (hall : ∀ (j : Nat) (o : Oper), ops[j]? = some o → noDefer o = true) (hlet : ¬ LetsOut Q) : ∀ (fuel : Nat) (listed : Array Bool) (a : Act) (w : World),
    wpAny P md ops Q fuel listed a w → wpAnyIn (Fence.wide.inRound l) n P md ops Q fuel listed a w
  | 0, _, _, _, h => h
  | fuel + 1, _, _, _, h => ⟨h.1, fun i hi => wpOpIn_mono (fun a' w' h' => any_round hall hlet fuel _ a' w' h') (wpOp_round hall hlet (h.2 i hi))⟩

theorem region_round {id : Nat} {a : Act} {w : World} {L : List Oper} {S : World → Prop} (hall : L.all noDefer = true) (hm : P.follows .mixedOrders = true) (hlet : ¬ LetsOut Q) (hS : S w.drew)
    (h : S w.drew → wpAnyH P .any L.toArray Q S L.toArray.size (Array.replicate L.toArray.size false) a w.drew) : (Code.region id L.toArray true).wpIn (Fence.wide.inRound l) n P Q a w := by
  refine wpIn_region_any hm (any_round (fun j o hj => ?_) hlet _ _ _ _ (wpAny_of_held _ _ _ _ (h hS)))
  rw [List.all_eq_true] at hall
  refine hall o ?_
  simp only [List.getElem?_toArray] at hj
  exact List.mem_of_getElem? hj
end
#print axioms region_round
end Go.Proofs.Qxb6603539a.Ds

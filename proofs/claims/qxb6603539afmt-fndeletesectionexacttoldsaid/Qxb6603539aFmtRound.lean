/-
  A REGION THAT DRAWS ITS ORDER AND ONLY READS, INSIDE A ROUND OF A RANGE OVER A FUNCTION: no operation of it is a 'defer', so it is carried out as anywhere; one walk of the lexical order serves.
-/
import Derived.Sort.QuietIn
import Derived.OwnWalkIn
namespace Go.Proofs.Qxb6603539aFmt.Ds
open Go.RowKit

section
variable {F : Fence} {n : Nat} {P : Program} {ops : Array Oper} {md : Region.Mode} {C : World → Prop}

def noDefer (o : Oper) : Bool := match o.op with | .defer _ => false | _ => true
theorem noDefer_ne {o : Oper} (h : noDefer o = true) : ∀ c, o.op ≠ .defer c := fun c e => by
  unfold noDefer at h; rw [e] at h; cases h

theorem quiet_op {o : Oper} {a : Act} {K : Act → Prop} {K' : Act → World → Prop} {Q' : Exit → Act → World → Prop} {w : World} (hd : noDefer o = true) (hw : C w) (h : ∀ a w', C w' → K a → K' a w')
    (ha : o.askedIn F P a C) (hh : o.quietIn F n P a C K) : o.wpIn F n P a w K' Q' := by
  obtain ⟨v, h1, h2⟩ := hh
  have h3 := h1 w hw
  unfold Oper.quietAtIn at h3
  unfold Oper.wpIn
  refine ⟨ha w hw, ?_⟩
  rw [Oper.semAt_plain F _ _ (noDefer_ne hd)]
  generalize (execOp a.eval o).run P w = r at *
  cases r with
  | ok x w' =>
    cases x <;> simp only [Oper.quietUponIn] at h3 <;> simp only [Oper.uponIn]
    case value u => rw [h3.1, h3.2]; exact h _ _ hw h2
    case skip => rw [h3.1, ← h3.2]; exact h _ _ hw h2
    case enter f args =>
      rw [h3.1]
      exact ⟨h3.2.1, h3.2.2.mono fun e w'' ⟨he, hw''⟩ => by subst he; exact h _ _ hw'' h2⟩
  | halt x w' => simp only [Oper.quietUponIn] at h3

theorem quiet_at {i : Nat} {a : Act} {K : Act → Prop} {K' : Act → World → Prop} {Q' : Exit → Act → World → Prop} {w : World} (hall : ∀ (j : Nat) (o : Oper), ops[j]? = some o → noDefer o = true) (hC : C w) (h : ∀ a w', C w' → K a → K' a w')
    (hh : qOpIn F n P ops C i K a) : wpOpIn F n P ops Q' i K' a w := by
  unfold qOpIn at hh
  unfold wpOpIn
  split
  · rename_i ho; simp only [ho] at hh; exact h _ _ hC hh
  · rename_i o ho
    simp only [ho] at hh
    obtain ⟨ha, hh⟩ := hh
    split
    · rename_i hw; simp only [hw, if_true] at hh; exact quiet_op (hall i o ho) hC h ha hh
    · rename_i hw; simp only [hw] at hh; exact ⟨ha w hC, h _ _ hC hh⟩

theorem quiet_any {Q : Act → Prop} {Q' : Exit → Act → World → Prop} (hall : ∀ (j : Nat) (o : Oper), ops[j]? = some o → noDefer o = true) (hQ : ∀ a w, C w → Q a → Q' .normal a w) : ∀ (fuel : Nat) (listed : Array Bool) (a : Act) (w : World), C w →
    wpAnyQIn F n P md ops C Q fuel listed a → wpAnyIn F n P md ops Q' fuel listed a w
  | 0, _, _, _, hw, h => ⟨h.1, hQ _ _ hw h.2⟩
  | fuel + 1, _, _, _, hw, h => ⟨fun h0 => hQ _ _ hw (h.1 h0), fun i hi => quiet_at hall hw (fun a' w' hw' => quiet_any hall hQ fuel _ a' w' hw') (h.2 i hi)⟩

theorem region_quiet_round {id : Nat} {Q : Exit → Act → World → Prop} {a : Act} {w : World} {l : List Oper} (hall : l.all noDefer = true) (hm : P.follows .mixedOrders = true) (hB : Region.lexB .any l.toArray = true)
    (h : wpQuietIn F n P l.toArray (fun w' => ∃ n, w' = w.drewN n) (fun a' => ∀ w', (∃ n, w' = w.drewN n) → Q .normal a' w') l a) : (Code.region id l.toArray true).wpIn F n P Q a w := by
  simp only [Region.lexB, Bool.and_eq_true] at hB
  refine wpIn_region_any hm (quiet_any (C := fun w' => ∃ n, w' = w.drewN n) (Q := fun a' => ∀ w', (∃ n, w' = w.drewN n) → Q .normal a' w') (fun j o hj => ?_) (fun _ w' hw' h => h w' hw') _ _ _ _ ⟨1, rfl⟩ ?_)
  · rw [List.all_eq_true] at hall
    refine hall o ?_
    simp only [List.getElem?_toArray] at hj
    exact List.mem_of_getElem? hj
  · have := wpAnyQIn_lex (F := F) (n := n) (P := P) (C := fun w' => ∃ n, w' = w.drewN n) (md := .any) hB.1 l 0 (Array.replicate l.toArray.size false) a (by simp) (by simpa using hB.2) h
    simpa using this
end
#print axioms region_quiet_round
end Go.Proofs.Qxb6603539aFmt.Ds

/-
  A REGION THAT DRAWS ITS ORDER, ITS LOADS TAKEN FIRST: as the library's 'wpAnyH', but what the loads lean on is asked behind every operation BUT THE LAST (which may be the store into the very cell that was read).
-/
import Derived.OrdersHeld
import Derived.Test.Qxb6603539aHeld
namespace Go.Proofs.Qxb6603539a.Ds
open Go.RowKit

section
variable {P : Program} {ops : Array Oper} {Q : Exit → Act → World → Prop} {md : Region.Mode} {S : World → Prop} {z : Nat}

def anyL (P : Program) (md : Region.Mode) (ops : Array Oper) (Q : Exit → Act → World → Prop) (S : World → Prop) (z : Nat) : Nat → Array Bool → Act → World → Prop
  | 0, listed, a, w => Region.ready md ops listed = [] ∧ Q .normal a w
  | fuel + 1, listed, a, w =>
    (Region.ready md ops listed = [] → Q .normal a w) ∧
    ∀ i ∈ Region.ready md ops listed, wpOp P ops Q i (fun a' w' => (i ≠ z → S w') ∧ anyL P md ops Q S z fuel (listed.setIfInBounds i true) a' w') a w

theorem any_of_L : ∀ (fuel : Nat) (listed : Array Bool) (a : Act) (w : World), anyL P md ops Q S z fuel listed a w → wpAny P md ops Q fuel listed a w
  | 0, _, _, _, h => h
  | fuel + 1, _, _, _, h => ⟨h.1, fun i hi => wpOp_mono (fun a' w' h' => any_of_L fuel _ a' w' h'.2) (h.2 i hi)⟩

theorem anyL_first {i : Nat} {oi : Oper} {v : Value} (hi : ops[i]? = some oi) (hsel : ∀ (j : Nat) (o : Oper) cs b, ops[j]? = some o → o.op ≠ .select cs b)
    (hQ : ∀ c a w, Q (.panic c) (a.put oi.dst v) w → Q (.panic c) a w) (hz : ∀ oz, ops[z]? = some oz → ∃ e ∈ oz.after, Region.binds md e = true ∧ e.on = i) :
    ∀ (fuel : Nat) (listed : Array Bool) (a : Act) (w : World),
      (∀ j oj, ops[j]? = some oj → j ≠ i → listed.getD j true = false → (∀ e ∈ oj.after, Region.binds md e = true → e.on ≠ i) → oi.apart ops oj = true) →
      i ∈ Region.ready md ops listed → YieldsIf P ops S oi v a → S w →
      anyL P md ops Q S z fuel (listed.setIfInBounds i true) (a.put oi.dst v) w → anyL P md ops Q S z (fuel + 1) listed a w := by
  intro fuel
  induction fuel with
  | zero =>
    intro listed a w _ hr hy hS H
    refine ⟨fun h => (by rw [h] at hr; cases hr), fun j hj => ?_⟩
    by_cases hji : j = i
    · subst hji; exact hy.wpOp hi hS ⟨fun _ => hS, H⟩
    · have := ready_mono hj hji
      rw [H.1] at this
      cases this
  | succ fuel ih =>
    intro listed a w hfree hr hy hS H
    refine ⟨fun h => (by rw [h] at hr; cases hr), fun j hj => ?_⟩
    by_cases hji : j = i
    · subst hji; exact hy.wpOp hi hS ⟨fun _ => hS, H⟩
    · have h1 := H.2 j (ready_mono hj hji)
      obtain ⟨hjun, oj, hoj, hall⟩ := mem_ready.1 hj
      have hnot : ∀ e ∈ oj.after, Region.binds md e = true → e.on ≠ i := fun e he hb heq => by
        have h1 := hall e he hb
        have h0 := (mem_ready.1 hr).1
        rw [heq] at h1
        rcases Nat.lt_or_ge i listed.size with h' | h'
        · simp [h'] at h0 h1; rw [h0] at h1; cases h1
        · simp [Array.getElem?_eq_none h'] at h1
      have h2 := wpOp_putIf hoj (hfree j oj hoj hji hjun hnot) (fun cs b => hsel i oi cs b hi) (fun cs b => hsel j oj cs b hoj) hQ hy h1
      have hfree' : ∀ k ok, ops[k]? = some ok → k ≠ i → (listed.setIfInBounds j true).getD k true = false →
          (∀ e ∈ ok.after, Region.binds md e = true → e.on ≠ i) → oi.apart ops ok = true := fun k ok hk hki hun hno => by
        refine hfree k ok hk hki ?_ hno
        by_cases hjk : j = k
        · subst hjk; exact hjun
        · rw [getD_set_ne true hjk] at hun; exact hun
      have hri : i ∈ Region.ready md ops (listed.setIfInBounds j true) := ready_mono hr (Ne.symm hji)
      refine wpOp_mono (fun a' w' h3 => ?_) h2
      have hjz : j ≠ z := fun e => by
        subst e
        obtain ⟨ed, he, hb, ho⟩ := hz oj hoj
        exact hnot ed he hb ho
      have hS' := h3.2.1 hjz
      refine ⟨fun _ => hS', ih (listed.setIfInBounds j true) a' w' hfree' hri h3.1 hS' ?_⟩
      rw [Array.setIfInBounds_comm _ _ hji]
      exact h3.2.2

/-- Take number i first. -/
theorem anyL_take {i : Nat} {oi : Oper} {v : Value} {fuel : Nat} {listed : Array Bool} {a : Act} {w : World} (hi : ops[i]? = some oi)
    (hs : Region.noSelect ops = true) (hf : Region.free md ops listed i = true) (hr : (Region.ready md ops listed).contains i = true)
    (hz : (match ops[z]? with | some oz => oz.after.any (fun e => Region.binds md e && e.on == i) | none => true) = true)
    (hQ : ∀ c a w, Q (.panic c) (a.put oi.dst v) w → Q (.panic c) a w) (hy : YieldsIf P ops S oi v a) (hS : S w)
    (h : anyL P md ops Q S z fuel (listed.setIfInBounds i true) (a.put oi.dst v) w) : anyL P md ops Q S z (fuel + 1) listed a w :=
  anyL_first hi (Region.noSelect_spec hs) hQ (fun oz ho => by
    rw [ho] at hz
    simp only [Array.any_eq_true] at hz
    obtain ⟨x, hx, hb⟩ := hz
    simp only [Bool.and_eq_true, beq_iff_eq] at hb
    exact ⟨_, Array.getElem_mem hx, hb.1, hb.2⟩) fuel listed a w (Region.free_spec hi hf) (by simpa using hr) hy hS h

theorem anyL_done {listed : Array Bool} {a : Act} {w : World} (hr : Region.ready md ops listed = []) (h : Q .normal a w) : ∀ fuel, anyL P md ops Q S z fuel listed a w
  | 0 => ⟨hr, h⟩
  | _ + 1 => ⟨fun _ => h, by rw [hr]; simp⟩

/-- One operation alone may come up. -/
theorem anyL_one {i : Nat} {o : Oper} {fuel : Nat} {listed : Array Bool} {a : Act} {w : World} (hr : Region.ready md ops listed = [i]) (ho : ops[i]? = some o)
    (h : ∀ K' : Act → World → Prop, Shut (∀ a w, (i ≠ z → S w) → anyL P md ops Q S z fuel (listed.setIfInBounds i true) a w → K' a w) → if Region.wanted o (yielded ops a.tmps) = true then Oper.wp P o a w K' Q else K' (a.put o.dst undef) w) :
    anyL P md ops Q S z (fuel + 1) listed a w := by
  refine ⟨fun h0 => (by rw [hr] at h0; cases h0), fun j hj => ?_⟩
  rw [hr, List.mem_singleton] at hj
  subst hj
  exact wpOp_step ho (fun K' hK => h K' (fun a w hS hW => hK a w ⟨hS, hW⟩))
/-- One of two. -/
theorem anyL_two {i j : Nat} {o o' : Oper} {fuel : Nat} {listed : Array Bool} {a : Act} {w : World} (hr : Region.ready md ops listed = [i, j]) (ho : ops[i]? = some o) (ho' : ops[j]? = some o')
    (h : ∀ K' : Act → World → Prop, Shut (∀ a w, (i ≠ z → S w) → anyL P md ops Q S z fuel (listed.setIfInBounds i true) a w → K' a w) → if Region.wanted o (yielded ops a.tmps) = true then Oper.wp P o a w K' Q else K' (a.put o.dst undef) w)
    (h' : ∀ K' : Act → World → Prop, Shut (∀ a w, (j ≠ z → S w) → anyL P md ops Q S z fuel (listed.setIfInBounds j true) a w → K' a w) → if Region.wanted o' (yielded ops a.tmps) = true then Oper.wp P o' a w K' Q else K' (a.put o'.dst undef) w) :
    anyL P md ops Q S z (fuel + 1) listed a w := by
  refine ⟨fun h0 => (by rw [hr] at h0; cases h0), fun k hk => ?_⟩
  rw [hr] at hk
  rcases List.mem_cons.1 hk with rfl | hk
  · exact wpOp_step ho (fun K' hK => h K' (fun a w hS hW => hK a w ⟨hS, hW⟩))
  · rw [List.mem_singleton] at hk; subst hk
    exact wpOp_step ho' (fun K' hK => h' K' (fun a w hS hW => hK a w ⟨hS, hW⟩))

/-! ### The same moves, the operation laid open by the walk -/
theorem anyL_takeD (d : Option Tmp) {i : Nat} {v : Value} {fuel : Nat} {listed : Array Bool} {a : Act} {w : World}
    (hs : Region.noSelect ops = true) (hf : Region.free md ops listed i = true) (hr : (Region.ready md ops listed).contains i = true)
    (hz : (match ops[z]? with | some oz => oz.after.any (fun e => Region.binds md e && e.on == i) | none => true) = true)
    (hy : ∀ oi, ops[i]? = some oi → oi.dst = d ∧ YieldsIf P ops S oi v a) (hQ : ∀ c a w, Q (.panic c) (a.put d v) w → Q (.panic c) a w) (hS : S w)
    (h : anyL P md ops Q S z fuel (listed.setIfInBounds i true) (a.put d v) w) : anyL P md ops Q S z (fuel + 1) listed a w := by
  obtain ⟨oi, hi⟩ : ∃ oi, ops[i]? = some oi := by
    cases h0 : ops[i]? with
    | none => unfold Region.free at hf; rw [h0] at hf; cases hf
    | some oi => exact ⟨oi, rfl⟩
  obtain ⟨rfl, hyy⟩ := hy oi hi
  exact anyL_take hi hs hf hr hz hQ hyy hS h
theorem anyL_oneD {i : Nat} {fuel : Nat} {listed : Array Bool} {a : Act} {w : World} (hr : Region.ready md ops listed = [i]) (hin : i < ops.size)
    (h : ∀ o, ops[i]? = some o → ∀ K' : Act → World → Prop, Shut (∀ a w, (i ≠ z → S w) → anyL P md ops Q S z fuel (listed.setIfInBounds i true) a w → K' a w) → if Region.wanted o (yielded ops a.tmps) = true then Oper.wp P o a w K' Q else K' (a.put o.dst undef) w) :
    anyL P md ops Q S z (fuel + 1) listed a w := anyL_one hr (Array.getElem?_eq_getElem hin) (h _ (Array.getElem?_eq_getElem hin))
theorem anyL_twoD {i j : Nat} {fuel : Nat} {listed : Array Bool} {a : Act} {w : World} (hr : Region.ready md ops listed = [i, j]) (hin : i < ops.size) (hjn : j < ops.size)
    (h : ∀ o, ops[i]? = some o → ∀ K' : Act → World → Prop, Shut (∀ a w, (i ≠ z → S w) → anyL P md ops Q S z fuel (listed.setIfInBounds i true) a w → K' a w) → if Region.wanted o (yielded ops a.tmps) = true then Oper.wp P o a w K' Q else K' (a.put o.dst undef) w)
    (h' : ∀ o, ops[j]? = some o → ∀ K' : Act → World → Prop, Shut (∀ a w, (j ≠ z → S w) → anyL P md ops Q S z fuel (listed.setIfInBounds j true) a w → K' a w) → if Region.wanted o (yielded ops a.tmps) = true then Oper.wp P o a w K' Q else K' (a.put o.dst undef) w) :
    anyL P md ops Q S z (fuel + 1) listed a w := anyL_two hr (Array.getElem?_eq_getElem hin) (Array.getElem?_eq_getElem hjn) (h _ (Array.getElem?_eq_getElem hin)) (h' _ (Array.getElem?_eq_getElem hjn))

theorem wp_region_L {id : Nat} {a : Act} {w : World} (z k : Nat) (hk : ops.size = k) (hm : P.follows .mixedOrders = true) (hS : S w.drew) (h : S w.drew → anyL P .any ops Q S z k (Array.replicate k false) a w.drew) : (Code.region id ops true).wp P Q a w := by
  subst hk
  exact wp_region_any hm (any_of_L _ _ _ _ (h hS))
theorem round_region_L {l n id : Nat} {a : Act} {w : World} {L : List Oper} (z k : Nat) (hk : L.toArray.size = k) (hall : L.all noDefer = true) (hm : P.follows .mixedOrders = true) (hlet : ¬ LetsOut Q) (hS : S w.drew)
    (h : S w.drew → anyL P .any L.toArray Q S z k (Array.replicate k false) a w.drew) : (Code.region id L.toArray true).wpIn (Fence.wide.inRound l) n P Q a w := by
  subst hk
  refine wpIn_region_any hm (any_round (fun j o hj => ?_) hlet _ _ _ _ (any_of_L _ _ _ _ (h hS)))
  rw [List.all_eq_true] at hall
  refine hall o ?_
  simp only [List.getElem?_toArray] at hj
  exact List.mem_of_getElem? hj
#print axioms round_region_L
end
end Go.Proofs.Qxb6603539a.Ds

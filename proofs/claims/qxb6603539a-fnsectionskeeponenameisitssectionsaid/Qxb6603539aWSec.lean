import Derived.Test.Qxb6603539aSt
import Derived.Test.Qxb6603539aIdx
import Derived.Laws.CopyOwn
namespace Go.Proofs.Qxb6603539a.Ds
open Go.RowKit

theorem Try.info72 : (Try.prog.info? 72).map (fun i => (i.zero, i.size, i.bytes)) = some (some (.agg #[.string ⟨#[]⟩, .slice none 0 0]), 2, 40) := by kernel_rfl

theorem WF.addSec {Q : Nat} {S : List Sc} (h : WF Q S) {nm : ByteArray} (hno : ∀ i, i < S.length → (sat S i).nm ≠ nm) : WF (Q + 1) (addSec S nm) := by
  have hl : (Ds.addSec S nm).length = S.length + 1 := by simp [Ds.addSec]
  have hn : sat (Ds.addSec S nm) S.length = ⟨nm, []⟩ := sat_new
  have ho : ∀ i, i < S.length → sat (Ds.addSec S nm) i = sat S i := fun i hi => sat_app hi
  have hc : ∀ i, i < (Ds.addSec S nm).length → i < S.length ∨ i = S.length := fun i hi => by omega
  refine ⟨by have := h.len; omega, fun i j hi hj e => ?_, fun i hi => ?_, fun i j l hi hj hl' e => ?_, fun i j hi hj => ?_⟩
  · rcases hc i hi with h1 | rfl <;> rcases hc j hj with h2 | rfl
    · rw [ho i h1, ho j h2] at e; exact h.apart i j h1 h2 e
    · rw [ho i h1, hn] at e; exact absurd e (hno i h1)
    · rw [hn, ho j h2] at e; exact absurd e.symm (hno j h2)
    · rfl
  · rcases hc i hi with h1 | rfl
    · rw [ho i h1]; exact Nat.le_trans (h.klen i h1) (by omega)
    · rw [hn]; simp
  · rcases hc i hi with h1 | rfl
    · rw [ho i h1] at hj hl' e; exact h.kapart i j l h1 hj hl' e
    · rw [hn] at hj; simp at hj
  · rcases hc i hi with h1 | rfl
    · rw [ho i h1] at hj ⊢; exact Nat.le_trans (h.vlen i j h1 hj) (by omega)
    · rw [hn] at hj; simp at hj

theorem cell_two_new (W : World) (a b : Value) (t : TypeId) : ∀ (j : Nat) (u : Value), [a, b][j]? = some u → (W.alloc (.cells #[a, b] t)).cell? ((⟨W.heap.size, 0, none⟩ : Addr).add j) = some u := by
  intro j u hj
  have e : ((⟨W.heap.size, 0, none⟩ : Addr).add j) = ⟨W.heap.size, j, none⟩ := by
    unfold Addr.add; split
    · rename_i h; rw [h]
    · simp
  rw [e, cell_of_row _ _ j _ _ _ (heap_alloc_new _ _)]
  simp only [List.getElem?_toArray]; exact hj

/-- The state behind the adding of a section: the map's store, the new element's block, the append, the store of the new slice. -/
theorem St.sec {E : Vars} {Q : Nat} {S : List Sc} {nm : ByteArray} {W W1 W2 : World} {v v' : Value} {L1 : List (Value × Int)} {kv : Nat → Value} {vv : Nat → Nat → Value} {φk : Nat → Nat} {φv : Nat → Nat × Nat} {o : Obj}
    (h : St E Q S W) (hv : W.heap[E.Bs]? = some (.cells #[v] 52 (0, 0))) (hR : RepV 72 78 E.base W v S kv vv φk φv) (hno : ∀ i, i < S.length → (sat S i).nm ≠ nm)
    (hL1 : ∀ p, p ∈ L1 ↔ ∃ i, i < S.length ∧ p = (.string (sat S i).nm, (i : Int))) (hM : MapAt 9 W1 E.M1 (L1 ++ [(.string nm, (S.length : Int))])) (hg1 : W.grownBy W1 (some E.M1))
    (hg2 : (W1.alloc o).grownBy W2 v.ownBlock) (ho : W2.ownsRow E.base 72 2 v' (S.length + 1) (pairs (fun i => .string (sat S i).nm) kv S.length ++ [.string nm, .slice none 0 0])) :
    RepV 72 78 E.base (W1.alloc o) v S kv vv φk φv ∧ W1.heap[E.Bs]? = some (.cells #[v] 52 (0, 0)) ∧ W2.heap[E.Bs]? = some (.cells #[v] 52 (0, 0)) ∧ (W2.setCell ⟨E.Bs, 0, none⟩ v').heap[E.Bs]? = some (.cells #[v'] 52 (0, 0)) ∧ Rep 72 78 E.base (W2.setCell ⟨E.Bs, 0, none⟩ v') v' (addSec S nm) ∧ St E (Q + 1) (addSec S nm) (W2.setCell ⟨E.Bs, 0, none⟩ v') ∧ Chg E W (W2.setCell ⟨E.Bs, 0, none⟩ v') := by
  obtain ⟨L0, hm0, _⟩ := h.m1
  obtain ⟨es, c, hob⟩ := hm0.obj
  have ch1 : Chg E W W1 := Chg.map1 hg1 hob
  have st1 : Stay (fun _ => True) W W1 := Stay.grown hg1 hob (fun c t fr e => by cases e)
  have st2 : Stay (fun _ => True) W (W1.alloc o) := st1.alloc o
  have hRa := hR.stay (st2.mono (fun _ _ => trivial))
  have ch2 : Chg E (W1.alloc o) W2 := Chg.row hg2 hRa.row (by simp [freeT])
  have hrow : ∀ (k : Nat) (c : Array Value) (t : TypeId) (fr : Nat × Nat), (W1.alloc o).heap[k]? = some (.cells c t fr) → t ≠ 72 → W2.heap[k]? = some (.cells c t fr) := fun k c t fr hk ht =>
    (hg2.block k (lt_of_some hk) (fun e => by obtain ⟨c', hc'⟩ := own_type hRa.row e.symm; rw [hk] at hc'; cases hc'; exact ht rfl)).trans hk
  have hobj : ∀ (k : Nat) (ob : Obj), (W1.alloc o).heap[k]? = some ob → ob.isCells = false → W2.heap[k]? = some ob := fun k ob hk hc =>
    (hg2.block k (lt_of_some hk) (fun e => by obtain ⟨c', hc'⟩ := own_type hRa.row e.symm; rw [hk] at hc'; cases hc'; cases hc)).trans hk
  have hvA := st2.same _ _ _ _ hv trivial
  have hv2 := hrow _ _ _ _ hvA (by decide)
  have hset : ∀ (k : Nat) (ob : Obj), W2.heap[k]? = some ob → k ≠ E.Bs → (W2.setCell ⟨E.Bs, 0, none⟩ v').heap[k]? = some ob := fun k ob hk hne => (Below.heap_setCell _ _ _ _ hne).trans hk
  have hnew : (W2.setCell ⟨E.Bs, 0, none⟩ v').heap[E.Bs]? = some (.cells #[v'] 52 (0, 0)) := by simpa using heap_setCell_same W2 E.Bs 0 _ _ v' hv2
  have hrep : Rep 72 78 E.base (W2.setCell ⟨E.Bs, 0, none⟩ v') v' (addSec S nm) := (hRa.sec (by decide) (by decide) hg2 ho).stay (Stay.cell v' hv2 (by simp [repT]))
  have hall : ∀ (k : Nat) (c : Array Value) (t : TypeId) (fr : Nat × Nat), W.heap[k]? = some (.cells c t fr) → t ≠ 72 → t ≠ 52 → (W2.setCell ⟨E.Bs, 0, none⟩ v').heap[k]? = some (.cells c t fr) := fun k c t fr hk h1 h2 =>
    hset _ _ (hrow _ _ _ _ (st2.same _ _ _ _ hk trivial) h1) (fun e => by subst e; rw [hv] at hk; cases hk; exact h2 rfl)
  obtain ⟨L2, hm2, hL2⟩ := h.m2
  have hM2 : (W2.setCell ⟨E.Bs, 0, none⟩ v').heap[E.M2]? = W.heap[E.M2]? := by
    obtain ⟨es2, c2, hob2⟩ := hm2.obj
    rw [hob2]
    refine hset _ _ (hobj _ _ ((Below.heap_alloc _ _ _ (Nat.lt_of_lt_of_le (lt_of_some hob2) hg1.size)).trans ((hg1.block _ (lt_of_some hob2) (fun e => h.ne (Option.some.inj e).symm)).trans hob2)) rfl) (fun e => ?_)
    rw [e, hv] at hob2; cases hob2
  have hM1 : MapAt 9 (W2.setCell ⟨E.Bs, 0, none⟩ v') E.M1 (L1 ++ [(.string nm, (S.length : Int))]) := by
    refine hM.blk ?_
    obtain ⟨es1, c1, hob1⟩ := hM.obj
    rw [hob1]
    refine hset _ _ (hobj _ _ ((Below.heap_alloc _ _ _ (lt_of_some hob1)).trans hob1) rfl) (fun e => ?_)
    rw [e, hv] at hob; cases hob
  have hbl1 : Below E.w0.heap.size E.w0 W1 := h.bl.grown hg1 h.bl.size (fun k e => by cases e; exact h.lo.2.1)
  have hbl2 : Below E.w0.heap.size E.w0 W2 := (hbl1.alloc hbl1.size o).grown hg2 (hbl1.alloc hbl1.size o).size (fun k e => Nat.le_trans h.lo.2.2.2.1 (hRa.row.lt k e).1)
  have hbl3 := hbl2.setCell (p := ⟨E.Bs, 0, none⟩) h.lo.1 v'
  have ch3 : Chg E W2 (W2.setCell ⟨E.Bs, 0, none⟩ v') := Chg.set v' hv2 (by simp [freeT])
  have hch := ((ch1.alloc o).trans ch2).trans ch3
  have hsl : (addSec S nm).length = S.length + 1 := by simp [addSec]
  have hsn : sat (addSec S nm) S.length = ⟨nm, []⟩ := sat_new
  have hso : ∀ i, i < S.length → sat (addSec S nm) i = sat S i := fun i hi => sat_app hi
  refine ⟨hRa, st1.same _ _ _ _ hv trivial, hv2, hnew, hrep, ⟨⟨v', hnew, hrep⟩, hall _ _ _ _ h.m1v (by decide) (by decide), hall _ _ _ _ h.m2v (by decide) (by decide), hall _ _ _ _ h.fnv (by decide) (by decide), hall _ _ _ _ h.kpv (by decide) (by decide), ⟨_, hM1, fun p => ?_⟩, ⟨L2, hm2.blk hM2, fun p => ?_⟩, h.wf.addSec hno, hbl3, h.ne, h.lo.1, h.lo.2.1, h.lo.2.2.1, h.lo.2.2.2.1, Nat.le_trans h.lo.2.2.2.2 hch.size⟩, hch⟩
  · rw [List.mem_append, hL1]
    constructor
    · rintro (⟨i, hi, rfl⟩ | hp)
      · exact ⟨i, by omega, by rw [hso i hi]⟩
      · rw [List.mem_singleton] at hp; subst hp; exact ⟨S.length, by omega, by rw [hsn]⟩
    · rintro ⟨i, hi, rfl⟩
      rw [hsl] at hi
      by_cases hlt : i < S.length
      · exact .inl ⟨i, hlt, by rw [hso i hlt]⟩
      · obtain rfl : i = S.length := by omega
        exact .inr (by rw [hsn]; simp)
  · rw [hL2]
    constructor
    · rintro ⟨i, j, hi, hj, rfl⟩
      exact ⟨i, j, by omega, by rw [hso i hi]; exact hj, by rw [hso i hi]⟩
    · rintro ⟨i, j, hi, hj, rfl⟩
      rw [hsl] at hi
      by_cases hlt : i < S.length
      · rw [hso i hlt] at hj ⊢; exact ⟨i, j, hlt, hj, rfl⟩
      · obtain rfl : i = S.length := by omega
        rw [hsn] at hj; simp at hj

/-- What 'section' hands back. -/
def SecPost (E : Vars) (Q : Nat) (S : List Sc) (nm : ByteArray) (W : World) (e : Ending) (W' : World) : Prop :=
  ∃ g, e = .returned (.pointer (some ⟨g, sidx (opn S nm) nm * 2, none⟩)) ∧ (∃ v, W'.heap[E.Bs]? = some (.cells #[v] 52 (0, 0)) ∧ v.ownBlock = some g ∧ Rep 72 78 E.base W' v (opn S nm)) ∧ St E (Q + 1) (opn S nm) W' ∧ Chg E W W'

set_option maxHeartbeats 2000000 in
theorem section_any (E : Vars) (Q : Nat) (S : List Sc) (nm : ByteArray) (W : World) (h : St E Q S W) (hnm : nm.size ≤ maxLen) (hQ : Q ≤ 3000000000000) :
    Calls Try.prog 37 #[.string nm, .pointer (some ⟨E.B1, 0, none⟩), .pointer (some ⟨E.Bs, 0, none⟩)] W fun e W' => SecPost E Q S nm W e W' := by
  obtain ⟨v, hv, hr⟩ := h.vs
  obtain ⟨L1, hm1, hL1⟩ := h.m1
  obtain ⟨kl, hkl⟩ := key9 hnm
  have c1 : W.cell? ⟨E.B1, 0, none⟩ = some (.map (some E.M1)) := by rw [cell_of_row W _ 0 _ _ _ h.m1v]; rfl
  have cs : W.cell? ⟨E.Bs, 0, none⟩ = some v := by rw [cell_of_row W _ 0 _ _ _ hv]; rfl
  by_cases hf : sidx S nm < S.length
  · have ho : opn S nm = S := by unfold opn; rw [if_pos hf]
    obtain ⟨kv, vv, φk, φv, hR⟩ := hr
    obtain ⟨g, cp, rfl, hg, hg1, hg2, hg3, hg4, hg5⟩ := own_at hR.row (by omega)
    have hin := sidx_hit hf
    rcases hm1.look keyed9 Try.underlying85 hkl with ⟨i, hi, hrun⟩ | ⟨hno, hrun⟩
    · obtain ⟨i', hi', hp⟩ := (hL1 _).1 hi
      obtain ⟨hp1, rfl⟩ := Prod.mk.inj hp
      have hie : i' = sidx S nm := h.wf.apart i' _ hi' hf (by rw [hin]; cases hp1; rfl)
      have hpost : SecPost E Q S nm W (.returned (.pointer (some ⟨g, i' * 2, none⟩))) W := by
        rw [hie]; unfold SecPost; rw [ho]; exact ⟨g, rfl, ⟨_, hv, hg, ⟨kv, vv, φk, φv, hR⟩⟩, h.mono (by omega), Chg.refl _ _⟩
      have HP := hide hpost
      have hb1 : (i' : Int) < (S.length : Int) := by omega
      have hb0 : (0 : Int) ≤ (i' : Int) := by omega
      clear hpost h hm1 hL1 hR hv hkl hi hp hp1 hie hin ho hf hg4 hg5 hg
      go_enter Try.func37, Try.ntmps37
      go_wp2
      go_ret
      exact HP.out
    · exact absurd ((hL1 _).2 ⟨_, hf, by rw [hin]⟩) (hno _)
  · have ho : opn S nm = addSec S nm := by unfold opn; rw [if_neg hf]
    have hno := sidx_none hf
    obtain ⟨kv, vv, φk, φv, hR⟩ := hr
    have hnL : ∀ i, (Value.string nm, i) ∉ L1 := fun i hi => by
      obtain ⟨i', hi', hp⟩ := (hL1 _).1 hi
      obtain ⟨hp1, _⟩ := Prod.mk.inj hp
      exact hno i' hi' (by cases hp1; rfl)
    obtain ⟨i0, hi, hz0, hz1, hz2⟩ := info_parts Try.info72
    rcases hm1.look keyed9 Try.underlying85 hkl with ⟨i, hi, _⟩ | ⟨_, hrun⟩
    · exact absurd hi (hnL i)
    obtain ⟨W1, hput, hM, hg1, hsz⟩ := hm1.put keyed9 Try.underlying85 hkl hnL (S.length : Int)
    have hB1 := (Stay.grown (T := fun _ => True) hg1 hm1.obj.choose_spec.choose_spec (fun c t fr e => by cases e))
    have c1' : W1.cell? ⟨E.B1, 0, none⟩ = some (.map (some E.M1)) := by rw [cell_of_row W1 _ 0 _ _ _ (hB1.same _ _ _ _ h.m1v trivial)]; rfl
    have cs1 : W1.cell? ⟨E.Bs, 0, none⟩ = some v := by rw [cell_of_row W1 _ 0 _ _ _ (hB1.same _ _ _ _ hv trivial)]; rfl
    obtain ⟨ao, cp, hvs⟩ := own_slice hR.row
    have HS := hide (fun W2 v' => St.sec (W2 := W2) (v' := v') (o := .cells #[.string nm, .slice none 0 0] 72) h hv hR hno hL1 hM hg1)
    have HO := hide ((own_stay hR.row trivial (hB1.alloc (.cells #[.string nm, .slice none 0 0] 72))))
    have hbase : E.base ≤ W1.heap.size := by rw [hsz]; exact h.lo.2.2.2.2
    have hlen := h.wf.len
    have HSI := hide (sidx_add hf)
    have HOP := hide ho
    subst hvs
    clear hM hg1 hm1 hL1 hR hv h hno hnL hB1 ho hkl hf hsz
    go_enter Try.func37, Try.ntmps37
    go_wp2_with (at_builtin; refine wpList_append_lies _ (by rfl) _ _ _ (by rfl) E.base 72 i0 (.agg #[.string ⟨#[]⟩, .slice none 0 0]) 2 40 Try.underlying52 hi hz0 hz1 hz2 (by rfl) (by omega) _ S.length _ (by rfl) HO.out ⟨W1.heap.size, 0, none⟩ 1 1 [.string nm, .slice none 0 0] (by rfl) (by rfl) (cell_two_new _ _ _ _) (by simp [Value.oneCell']) (by omega) (by unfold maxLen; omega) (by omega) (by simp; omega) (W1.heap.size + 1) (by simp) ?_)
    intro g cap W2 hown hgrow hat hlt
    obtain ⟨_, _, h2, h3, h4, h5, h6⟩ := HS.out W2 _ hgrow hown
    have c2 : W2.cell? ⟨E.Bs, 0, none⟩ = some (.slice ao S.length cp) := by rw [cell_of_row W2 _ 0 _ _ _ h2]; rfl
    have f2 : W2.frozen? ⟨E.Bs, 0, none⟩ = false := frozen_of_row W2 _ 0 _ _ h2
    have HP : Hid (SecPost E Q S nm W (.returned (.pointer (some ⟨g, S.length * 2, none⟩))) (W2.setCell ⟨E.Bs, 0, none⟩ (.slice (some ⟨g, 0, none⟩) (S.length + 1) cap))) := by
      unfold SecPost; rw [HOP.out, HSI.out]; exact ⟨g, rfl, ⟨_, h3, rfl, h4⟩, h5, h6⟩
    have hb1 : (S.length : Int) < (S.length : Int) + 1 := by omega
    have hb0 : (0 : Int) ≤ (S.length : Int) := by omega
    clear h2 h3 h4 h5 h6 hown hgrow hat HS HO hput hrun c1' cs1 c1 cs
    go_wp2
    go_ret
    exact HP.out
end Go.Proofs.Qxb6603539a.Ds

import Derived.Test.Qxb6603539aWSec
namespace Go.Proofs.Qxb6603539a.Ds
open Go.RowKit

theorem WF.addKey {Q : Nat} {S : List Sc} (h : WF Q S) {i : Nat} {key : ByteArray} (hi : i < S.length) (hno : ∀ j, j < (sat S i).ks.length → (kat (sat S i).ks j).nm ≠ key) : WF (Q + 1) (addKey S i key) := by
  have hs : sat (Ds.addKey S i key) i = ⟨(sat S i).nm, (sat S i).ks ++ [⟨key, []⟩]⟩ := by unfold Ds.addKey; rw [sat_set_same hi]
  have ho : ∀ l, l ≠ i → sat (Ds.addKey S i key) l = sat S l := fun l hl => by unfold Ds.addKey; rw [sat_set_other (Ne.symm hl)]
  have hn : ∀ l, (sat (Ds.addKey S i key) l).nm = (sat S l).nm := fun l => by
    by_cases hl : l = i
    · subst hl; rw [hs]
    · rw [ho l hl]
  have hkn : kat ((sat S i).ks ++ [⟨key, []⟩]) (sat S i).ks.length = ⟨key, []⟩ := kat_new
  refine ⟨by rw [addKey_len]; have := h.len; omega, fun a b ha hb e => ?_, fun a ha => ?_, fun a j l ha hj hl e => ?_, fun a j ha hj => ?_⟩
  · rw [addKey_len] at ha hb; rw [hn, hn] at e; exact h.apart a b ha hb e
  · rw [addKey_len] at ha
    by_cases hl : a = i
    · subst hl; rw [hs]; simp; exact h.klen a ha
    · rw [ho a hl]; have := h.klen a ha; omega
  · rw [addKey_len] at ha
    by_cases hl' : a = i
    · subst hl'
      rw [hs] at hj hl e
      simp only [List.length_append, List.length_singleton] at hj hl
      simp only at e
      by_cases h1 : j < (sat S a).ks.length <;> by_cases h2 : l < (sat S a).ks.length
      · rw [kat_app h1, kat_app h2] at e; exact h.kapart a j l ha h1 h2 e
      · obtain rfl : l = (sat S a).ks.length := by omega
        rw [kat_app h1, hkn] at e; exact absurd e (hno j h1)
      · obtain rfl : j = (sat S a).ks.length := by omega
        rw [kat_app h2, hkn] at e; exact absurd e.symm (hno l h2)
      · omega
    · rw [ho a hl'] at hj hl e; exact h.kapart a j l ha hj hl e
  · rw [addKey_len] at ha
    by_cases hl' : a = i
    · subst hl'
      rw [hs] at hj ⊢
      simp only [List.length_append, List.length_singleton] at hj
      simp only
      by_cases h1 : j < (sat S a).ks.length
      · rw [kat_app h1]; have := h.vlen a j ha h1; omega
      · obtain rfl : j = (sat S a).ks.length := by omega
        rw [hkn]; simp
    · rw [ho a hl'] at hj ⊢; have := h.vlen a j ha hj; omega

theorem WF.addVal {Q : Nat} {S : List Sc} (h : WF Q S) {i j : Nat} {x : ByteArray} (hi : i < S.length) (hj : j < (sat S i).ks.length) : WF (Q + 1) (addVal S i j x) := by
  have hs : sat (Ds.addVal S i j x) i = ⟨(sat S i).nm, (sat S i).ks.set j ⟨(kat (sat S i).ks j).nm, (kat (sat S i).ks j).vs ++ [x]⟩⟩ := by unfold Ds.addVal; rw [sat_set_same hi]
  have ho : ∀ l, l ≠ i → sat (Ds.addVal S i j x) l = sat S l := fun l hl => by unfold Ds.addVal; rw [sat_set_other (Ne.symm hl)]
  have hn : ∀ l, (sat (Ds.addVal S i j x) l).nm = (sat S l).nm := fun l => by
    by_cases hl : l = i
    · subst hl; rw [hs]
    · rw [ho l hl]
  have hkl : ∀ l, (sat (Ds.addVal S i j x) l).ks.length = (sat S l).ks.length := fun l => by
    by_cases hl : l = i
    · subst hl; rw [hs]; simp
    · rw [ho l hl]
  have hkn : ∀ l m, (kat (sat (Ds.addVal S i j x) l).ks m).nm = (kat (sat S l).ks m).nm := fun l m => by
    by_cases hl : l = i
    · subst hl; rw [hs]
      simp only
      by_cases hm : m = j
      · subst hm; rw [kat_set_same hj]
      · rw [kat_set_other (Ne.symm hm)]
    · rw [ho l hl]
  refine ⟨by rw [addVal_len]; have := h.len; omega, fun a b ha hb e => ?_, fun a ha => ?_, fun a p q ha hp hq e => ?_, fun a p ha hp => ?_⟩
  · rw [addVal_len] at ha hb; rw [hn, hn] at e; exact h.apart a b ha hb e
  · rw [addVal_len] at ha; rw [hkl]; have := h.klen a ha; omega
  · rw [addVal_len] at ha; rw [hkl] at hp hq; rw [hkn, hkn] at e; exact h.kapart a p q ha hp hq e
  · rw [addVal_len] at ha; rw [hkl] at hp
    by_cases hl : a = i
    · subst hl; rw [hs]; simp only
      by_cases hm : p = j
      · subst hm; rw [kat_set_same hj]; simp; exact h.vlen a p ha hp
      · rw [kat_set_other (Ne.symm hm)]; have := h.vlen a p ha hp; omega
    · rw [ho a hl]; have := h.vlen a p ha hp; omega

section
variable {E : Vars} {Q : Nat} {S : List Sc} {W W5 Wa W6 : World} {v k' : Value} {kv : Nat → Value} {vv : Nat → Nat → Value} {φk : Nat → Nat} {φv : Nat → Nat × Nat}

/-- Behind the append to a row of keys or values, and the store of the new slice into a row one level up: what stands. -/
theorem St.stored {gs j : Nat} {u row : Value} {e1 e2 : TypeId} {n1 n2 : Nat} {xs1 xs2 : List Value} {top : Value} {S' : List Sc} {Q' : Nat} (h : St E Q S W)
    (hch : Chg E W Wa) (hb : Below E.w0.heap.size E.w0 Wa) (hv : Wa.heap[E.Bs]? = some (.cells #[v] 52 (0, 0)))
    (hrow : ∃ sz, Wa.ownsRow E.base e1 sz row n1 xs1) (he1 : e1 = 78 ∨ e1 = 9) (htop : Wa.ownsRow E.base e2 2 top n2 xs2) (he2 : e2 = 72 ∨ e2 = 78) (htg : top.ownBlock = some gs)
    (hgr : Wa.grownBy W6 row.ownBlock) (hne : e1 ≠ e2)
    (hrep : Rep 72 78 E.base (W6.setCell ⟨gs, j, none⟩ u) v S') (hwf : WF Q' S')
    (hm1 : ∀ p, (∃ i, i < S.length ∧ p = ((.string (sat S i).nm : Value), (i : Int))) ↔ ∃ i, i < S'.length ∧ p = (.string (sat S' i).nm, (i : Int)))
    (hm2 : ∃ L, MapAt 99 Wa E.M2 L ∧ ∀ p, p ∈ L ↔ ∃ i j, i < S'.length ∧ j < (sat S' i).ks.length ∧ p = (.agg #[.string (sat S' i).nm, .string (kat (sat S' i).ks j).nm], (j : Int)))
    (hM1 : Wa.heap[E.M1]? = W.heap[E.M1]?) :
    St E Q' S' (W6.setCell ⟨gs, j, none⟩ u) ∧ Chg E W (W6.setCell ⟨gs, j, none⟩ u) ∧ (W6.setCell ⟨gs, j, none⟩ u).heap[E.Bs]? = some (.cells #[v] 52 (0, 0)) ∧ (∃ c, W6.heap[gs]? = some (.cells c e2 (0, 0))) := by
  obtain ⟨sz, hrow⟩ := hrow
  have hfe1 : freeT e1 := by unfold freeT; rcases he1 with rfl | rfl <;> simp
  have hfe2 : freeT e2 := by unfold freeT; rcases he2 with rfl | rfl <;> simp
  obtain ⟨ct, hct⟩ := own_type htop htg
  have hkeep : ∀ (k : Nat) (ob : Obj), Wa.heap[k]? = some ob → (∀ c fr, ob ≠ .cells c e1 fr) → W6.heap[k]? = some ob := fun k ob hk hn =>
    (hgr.block k (lt_of_some hk) (fun e => by obtain ⟨c', hc'⟩ := own_type hrow e.symm; rw [hk] at hc'; cases hc'; exact hn _ _ rfl)).trans hk
  have hg6 : W6.heap[gs]? = some (.cells ct e2 (0, 0)) := hkeep _ _ hct (fun c fr e => by cases e; exact hne rfl)
  have hkeep2 : ∀ (k : Nat) (ob : Obj), Wa.heap[k]? = some ob → (∀ c fr, ob ≠ .cells c e1 fr) → (∀ c fr, ob ≠ .cells c e2 fr) → (W6.setCell ⟨gs, j, none⟩ u).heap[k]? = some ob := fun k ob hk h1 h2 =>
    (Below.heap_setCell _ _ _ _ (fun e => by subst e; have := hkeep _ _ hk h1; rw [hg6] at this; cases this; exact h2 _ _ rfl)).trans (hkeep _ _ hk h1)
  have hc1 : Chg E Wa W6 := Chg.row hgr hrow hfe1
  have hc2 : Chg E W6 (W6.setCell ⟨gs, j, none⟩ u) := Chg.set u hg6 hfe2
  have hcc := (hch.trans hc1).trans hc2
  have hbs : (W6.setCell ⟨gs, j, none⟩ u).heap[E.Bs]? = some (.cells #[v] 52 (0, 0)) := hkeep2 _ _ hv (fun c fr e => by cases e; rcases he1 with h | h <;> cases h) (fun c fr e => by cases e; rcases he2 with h | h <;> cases h)
  have hb6 : Below E.w0.heap.size E.w0 W6 := hb.grown hgr hb.size (fun k e => Nat.le_trans h.lo.2.2.2.1 (hrow.lt k e).1)
  have hb7 := hb6.setCell (p := ⟨gs, j, none⟩) (Nat.le_trans h.lo.2.2.2.1 (htop.lt _ htg).1) u
  obtain ⟨L1, hL1, hp1⟩ := h.m1
  obtain ⟨L2, hL2, hp2⟩ := hm2
  have hnf : ∀ {t : TypeId}, t = 85 ∨ t = 86 ∨ t = 89 ∨ t = 69 → ¬ freeT t := fun ht => by unfold freeT; rcases ht with rfl | rfl | rfl | rfl <;> decide
  refine ⟨⟨⟨v, hbs, hrep⟩, hcc.cells _ _ _ _ h.m1v (hnf (by simp)), hcc.cells _ _ _ _ h.m2v (hnf (by simp)), hcc.cells _ _ _ _ h.fnv (hnf (by simp)), hcc.cells _ _ _ _ h.kpv (hnf (by simp)), ⟨L1, hL1.blk ?_, fun p => (hp1 p).trans (hm1 p)⟩, ⟨L2, hL2.blk ?_, hp2⟩, hwf, hb7, h.ne, h.lo.1, h.lo.2.1, h.lo.2.2.1, h.lo.2.2.2.1, Nat.le_trans h.lo.2.2.2.2 hcc.size⟩, hcc, hbs, ct, hg6⟩
  · obtain ⟨es, c, ho⟩ := hL1.obj
    rw [ho]
    exact hkeep2 _ _ (hM1.trans ho) (fun c fr e => by cases e) (fun c fr e => by cases e)
  · obtain ⟨es, c, ho⟩ := hL2.obj
    rw [ho]
    exact hkeep2 _ _ ho (fun c fr e => by cases e) (fun c fr e => by cases e)

/-- A key is added: the map's store (W to W5), what Below allows (to Wa), the append (to W6), the store. -/
theorem St.key {L2 : List (Value × Int)} {i g : Nat} {key : ByteArray} (h : St E Q S W) (hv : W.heap[E.Bs]? = some (.cells #[v] 52 (0, 0))) (hg : v.ownBlock = some g) (hR : RepV 72 78 E.base W v S kv vv φk φv) (hi : i < S.length)
    (hno : ∀ j, j < (sat S i).ks.length → (kat (sat S i).ks j).nm ≠ key)
    (hL2 : ∀ p, p ∈ L2 ↔ ∃ i j, i < S.length ∧ j < (sat S i).ks.length ∧ p = (.agg #[.string (sat S i).nm, .string (kat (sat S i).ks j).nm], (j : Int)))
    (hM : MapAt 99 W5 E.M2 (L2 ++ [(.agg #[.string (sat S i).nm, .string key], ((sat S i).ks.length : Int))])) (hg5 : W.grownBy W5 (some E.M2)) (hWa : Below W5.heap.size W5 Wa) :
    RepV 72 78 E.base Wa v S kv vv φk φv ∧ (Wa.grownBy W6 (kv i).ownBlock → W6.ownsRow E.base 78 2 k' ((sat S i).ks.length + 1) (pairs (fun j => .string (kat (sat S i).ks j).nm) (vv i) (sat S i).ks.length ++ [.string key, .slice none 0 0]) →
      (k'.ownBlock = (kv i).ownBlock ∨ k'.ownBlock = some Wa.heap.size) →
      St E (Q + 1) (addKey S i key) (W6.setCell ⟨g, i * 2 + 1, none⟩ k') ∧ Chg E W (W6.setCell ⟨g, i * 2 + 1, none⟩ k') ∧ (W6.setCell ⟨g, i * 2 + 1, none⟩ k').heap[E.Bs]? = some (.cells #[v] 52 (0, 0)) ∧ Rep 72 78 E.base (W6.setCell ⟨g, i * 2 + 1, none⟩ k') v (addKey S i key) ∧ W6.cell? ⟨g, i * 2 + 1, none⟩ = some (kv i) ∧ W6.frozen? ⟨g, i * 2 + 1, none⟩ = false) := by
  obtain ⟨L0, hm0, _⟩ := h.m2
  obtain ⟨es, c, hob⟩ := hm0.obj
  have st5 : Stay (fun _ => True) W W5 := Stay.grown hg5 hob (fun c t fr e => by cases e)
  have sta : Stay (fun _ => True) W Wa := st5.trans (Stay.below hWa)
  have hRa := hR.stay (sta.mono (fun _ _ => trivial))
  refine ⟨hRa, fun hgr ho hat => ?_⟩
  have ch5 : Chg E W W5 := Chg.map2 hg5 hob
  have cha := ch5.trans (Chg.below hWa)
  have hb5 : Below E.w0.heap.size E.w0 W5 := h.bl.grown hg5 h.bl.size (fun k e => by cases e; exact h.lo.2.2.1)
  have hba := hb5.trans (hWa.mono hb5.size)
  have hs : sat (addKey S i key) i = ⟨(sat S i).nm, (sat S i).ks ++ [⟨key, []⟩]⟩ := by unfold addKey; rw [sat_set_same hi]
  have hso : ∀ l, l ≠ i → sat (addKey S i key) l = sat S l := fun l hl => by unfold addKey; rw [sat_set_other (Ne.symm hl)]
  have hn : ∀ l, (sat (addKey S i key) l).nm = (sat S l).nm := fun l => by
    by_cases hl : l = i
    · subst hl; rw [hs]
    · rw [hso l hl]
  have hrep := hRa.key (by decide) (by decide) (by decide) hi hg hgr ho hat
  have h6row : W6.ownsRow E.base 72 2 v S.length (pairs (fun i => .string (sat S i).nm) kv S.length) := own_grown hRa.row hgr (fun g' hg' => own_ne hRa.row (hRa.keys i hi) (by decide) hg')
  obtain ⟨g', cp, hv', hg', -, -, -, hcell, hfr⟩ := own_at h6row (by omega)
  obtain rfl : g' = g := by rw [hg'] at hg; cases hg; rfl
  have hmem : ∀ p, p ∈ L2 ++ [(.agg #[.string (sat S i).nm, .string key], ((sat S i).ks.length : Int))] ↔ ∃ a b, a < (addKey S i key).length ∧ b < (sat (addKey S i key) a).ks.length ∧ p = (.agg #[.string (sat (addKey S i key) a).nm, .string (kat (sat (addKey S i key) a).ks b).nm], (b : Int)) := fun p => by
    rw [List.mem_append, hL2, addKey_len]
    constructor
    · rintro (⟨a, b, ha, hb, rfl⟩ | hp)
      · by_cases hai : a = i
        · subst hai
          exact ⟨a, b, ha, by rw [hs]; simp; omega, by rw [hs]; simp only; rw [kat_app hb]⟩
        · exact ⟨a, b, ha, by rw [hso a hai]; exact hb, by rw [hso a hai]⟩
      · rw [List.mem_singleton] at hp; subst hp
        exact ⟨i, (sat S i).ks.length, hi, by rw [hs]; simp, by rw [hs]; simp only; rw [kat_new]⟩
    · rintro ⟨a, b, ha, hb, rfl⟩
      by_cases hai : a = i
      · subst hai
        rw [hs] at hb ⊢
        simp only [List.length_append, List.length_singleton] at hb
        simp only
        by_cases hlt : b < (sat S a).ks.length
        · exact .inl ⟨a, b, ha, hlt, by rw [kat_app hlt]⟩
        · obtain rfl : b = (sat S a).ks.length := by omega
          exact .inr (by rw [kat_new]; simp)
      · rw [hso a hai] at hb ⊢; exact .inl ⟨a, b, ha, hb, rfl⟩
  obtain ⟨r1, r2, r3, r4⟩ := h.stored (gs := g') (j := i * 2 + 1) (u := k') (row := kv i) (e1 := 78) (e2 := 72) (top := v) (S' := addKey S i key) (Q' := Q + 1) cha hba (sta.same _ _ _ _ hv trivial) ⟨2, hRa.keys i hi⟩ (.inl rfl) hRa.row (.inl rfl) hg hgr (by decide) hrep (h.wf.addKey hi hno)
    (fun p => by rw [addKey_len]; simp only [hn]) ⟨_, hM.blk (hWa.block _ hM.lt), hmem⟩ ((hWa.block _ (Nat.lt_of_lt_of_le h.lt1 hg5.size)).trans (hg5.block _ h.lt1 (fun e => h.ne (Option.some.inj e))))
  refine ⟨r1, r2, r3, hrep, ?_, hfr _⟩
  rw [hcell _ (by omega), pairs_1 _ _ _ _ hi]

/-- A value is added. -/
theorem St.val {i j g gk : Nat} {x : ByteArray} (h : St E Q S W) (hv : W.heap[E.Bs]? = some (.cells #[v] 52 (0, 0))) (hg : v.ownBlock = some g) (hR : RepV 72 78 E.base W v S kv vv φk φv) (hi : i < S.length) (hj : j < (sat S i).ks.length)
    (hgk : (kv i).ownBlock = some gk) (hWa : Below W.heap.size W Wa) :
    RepV 72 78 E.base Wa v S kv vv φk φv ∧ (Wa.grownBy W6 (vv i j).ownBlock → W6.ownsRow E.base 9 1 k' ((kat (sat S i).ks j).vs.length + 1) ((kat (sat S i).ks j).vs.map .string ++ [.string x]) →
      (k'.ownBlock = (vv i j).ownBlock ∨ k'.ownBlock = some Wa.heap.size) →
      St E (Q + 1) (addVal S i j x) (W6.setCell ⟨gk, j * 2 + 1, none⟩ k') ∧ Chg E W (W6.setCell ⟨gk, j * 2 + 1, none⟩ k') ∧ W6.cell? ⟨gk, j * 2 + 1, none⟩ = some (vv i j) ∧ W6.frozen? ⟨gk, j * 2 + 1, none⟩ = false ∧ W6.cell? ⟨g, i * 2 + 1, none⟩ = some (kv i)) := by
  have sta : Stay (fun _ => True) W Wa := Stay.below hWa
  have hRa := hR.stay (sta.mono (fun _ _ => trivial))
  refine ⟨hRa, fun hgr ho hat => ?_⟩
  have hs : sat (addVal S i j x) i = ⟨(sat S i).nm, (sat S i).ks.set j ⟨(kat (sat S i).ks j).nm, (kat (sat S i).ks j).vs ++ [x]⟩⟩ := by unfold addVal; rw [sat_set_same hi]
  have hso : ∀ l, l ≠ i → sat (addVal S i j x) l = sat S l := fun l hl => by unfold addVal; rw [sat_set_other (Ne.symm hl)]
  have hn : ∀ l, (sat (addVal S i j x) l).nm = (sat S l).nm := fun l => by
    by_cases hl : l = i
    · subst hl; rw [hs]
    · rw [hso l hl]
  have hkl : ∀ l, (sat (addVal S i j x) l).ks.length = (sat S l).ks.length := fun l => by
    by_cases hl : l = i
    · subst hl; rw [hs]; simp
    · rw [hso l hl]
  have hkn : ∀ l m, (kat (sat (addVal S i j x) l).ks m).nm = (kat (sat S l).ks m).nm := fun l m => by
    by_cases hl : l = i
    · subst hl; rw [hs]
      simp only
      by_cases hm : m = j
      · subst hm; rw [kat_set_same hj]
      · rw [kat_set_other (Ne.symm hm)]
    · rw [hso l hl]
  have hrep := hRa.val (by decide) (by decide) (by decide) hi hj hgk hgr ho hat
  have h6row : W6.ownsRow E.base 72 2 v S.length (pairs (fun i => .string (sat S i).nm) kv S.length) := own_grown hRa.row hgr (fun g' hg' => own_ne hRa.row (hRa.vals i j hi hj) (by decide) hg')
  have h6key : W6.ownsRow E.base 78 2 (kv i) (sat S i).ks.length (pairs (fun j => .string (kat (sat S i).ks j).nm) (vv i) (sat S i).ks.length) := own_grown (hRa.keys i hi) hgr (fun g' hg' => own_ne (hRa.keys i hi) (hRa.vals i j hi hj) (by decide) hg')
  obtain ⟨g', cp, hv', hg', -, -, -, hcell, hfr⟩ := own_at h6row (by omega)
  obtain rfl : g' = g := by rw [hg'] at hg; cases hg; rfl
  obtain ⟨gk', cpk, hvk', hgk', -, -, -, hcellk, hfrk⟩ := own_at h6key (by omega)
  obtain rfl : gk' = gk := by rw [hgk'] at hgk; cases hgk; rfl
  obtain ⟨L2, hm2, hp2⟩ := h.m2
  obtain ⟨r1, r2, r3, r4⟩ := h.stored (gs := gk') (j := j * 2 + 1) (u := k') (row := vv i j) (e1 := 9) (e2 := 78) (top := kv i) (S' := addVal S i j x) (Q' := Q + 1) (Chg.below hWa) (h.bl.trans (hWa.mono h.bl.size)) (sta.same _ _ _ _ hv trivial) ⟨1, hRa.vals i j hi hj⟩ (.inr rfl) (hRa.keys i hi) (.inr rfl) hgk hgr (by decide) hrep (h.wf.addVal hi hj)
    (fun p => by rw [addVal_len]; simp only [hn]) ⟨L2, hm2.blk (hWa.block _ h.lt2), fun p => by rw [hp2, addVal_len]; simp only [hn, hkl, hkn]⟩ (hWa.block _ h.lt1)
  exact ⟨r1, r2, by rw [hcellk _ (by omega), pairs_1 _ _ _ _ hj], hfrk _, by rw [hcell _ (by omega), pairs_1 _ _ _ _ hi]⟩
end
end Go.Proofs.Qxb6603539a.Ds

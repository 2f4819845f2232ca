import Derived.Test.Qxb6603539aFmtIv
import Derived.Shelf.Abstract
import Derived.Test.Qxb6603539aFmtRound
namespace Go.Proofs.Qxb6603539aFmt.Ds
open Go.RowKit
attribute [local go_sem] Oper.semAt_some

theorem Tryf.info56 : (Tryf.prog.info? 56).map (fun i => (i.zero, i.size, i.bytes)) = some (some (.agg #[.int .i64 0, .int .i64 0]), 2, 16) := by kernel_rfl

/-- The frame of a round, the part laid in block Bx. -/
def AxP (sec : ByteArray) (m : Nat) (w : World) (x : Part) (a' : Act) (W : World) : Prop :=
  ∃ Bx, W.heap[Bx]? = some (.cells #[.string x.nm, .int .i64 x.h, .int .i64 x.e] 54 (0, 0)) ∧ a' = { tmps := ([.pointer (some ⟨m, 0, none⟩), .string sec, undef, .pointer (some ⟨w.heap.size, 0, none⟩), .bool false, .nilIface, .pointer (some ⟨w.heap.size + 1, 0, none⟩), .pointer (some ⟨Bx, 0, none⟩), undef, undef, undef, undef, .string sec, .bool false, undef, .pointer (some ⟨m, 0, none⟩), .func (.func 25) #[] #[.pointer (some ⟨w.heap.size + 1 + 1, 0, none⟩)], .agg #[.string x.nm, .int .i64 x.h, .int .i64 x.e], undef, undef, undef, undef, undef, undef, undef, undef, undef, undef, undef, undef, undef, undef, undef, undef, undef, undef, undef, undef, undef, undef, undef, undef, undef, undef, undef, undef, undef, undef, undef, undef, undef, undef, undef, undef, undef, undef] ++ [undef, undef, undef, undef, undef, undef, undef, undef, undef, undef, undef, undef, undef, undef, undef, undef, undef, undef, undef, undef, undef, undef, undef, undef, undef, undef, undef, undef, undef, undef, undef, undef, undef, undef, undef, undef, undef, undef, undef, undef, undef, undef, undef, undef, undef, undef, undef, undef, undef, undef, undef, undef, undef, undef, undef, undef]).toArray, defers := [] }

theorem cell_two_new (W : World) (a b : Value) (t : TypeId) : ∀ (j : Nat) (u : Value), [a, b][j]? = some u → (W.alloc (.cells #[a, b] t)).cell? ((⟨W.heap.size, 0, none⟩ : Addr).add j) = some u := by
  intro j u hj
  have e : ((⟨W.heap.size, 0, none⟩ : Addr).add j) = ⟨W.heap.size, j, none⟩ := by
    unfold Addr.add; split
    · rename_i h; rw [h]
    · simp
  rw [e, cell_of_row _ _ j _ _ _ (heap_alloc_new _ _)]
  simp only [List.getElem?_toArray]; exact hj
theorem ne_own {W : World} {B base n : Nat} {u v : Value} {xs : List Value} (h : W.heap[B]? = some (.cells #[u] 49 (0, 0))) (k : W.ownsRow base 56 2 v n xs) : some B ≠ v.ownBlock := by
  intro e
  rcases k.2 with ⟨rfl, _⟩ | ⟨g, cap, cur, rfl, a2, a3, _⟩
  · simp [Value.ownBlock] at e
  · simp [Value.ownBlock] at e; subst e; rw [h] at a3; simp at a3

theorem rat_mem {R : List (Nat × Nat)} {i : Nat} (h : i < R.length) : rat R i ∈ R := by
  unfold rat; rw [List.getD_eq_getElem?_getD, List.getElem?_eq_getElem h]; exact List.getElem_mem h
theorem entB_lt (ls : List Ln) : ∀ i, entB ls i < (i : Int)
  | 0 => by simp [entB]
  | i + 1 => by
    unfold entB
    have := entB_lt ls i
    split
    · omega
    · split <;> omega

/-- A run whose removal would make the line behind it go on with the entry before it. -/
def badRun (ls : List Ln) (r : Nat × Nat) : Prop := 0 ≤ entB ls r.1 ∧ r.2 < ls.length ∧ ind (at' ls (entB ls r.1).toNat).t < ind (at' ls r.2).t

theorem notbad_snoc {ls : List Ln} {R : List (Nat × Nat)} {i a e : Nat} (h : ∀ j, j < i → ¬ badRun ls (rat R j)) (hae : rat R i = (a, e)) (hn : ¬ badRun ls (a, e)) : ∀ j, j < i + 1 → ¬ badRun ls (rat R j) := by
  intro j hj
  by_cases hji : j < i
  · exact h j hji
  · obtain rfl : j = i := by omega
    rw [hae]; exact hn

def DelPost (ls : List Ln) (sec : ByteArray) (m b cap : Nat) (ao : Option Addr) (bom : Bool) (w : World) (e : Ending) (w' : World) : Prop :=
  ((∃ r ∈ runsOf ls sec, badRun ls r) ∧ (∃ v, e = .returned (.tuple #[.bool false, .iface 64 v])) ∧ Below w.heap.size w w') ∨
  ((∀ r ∈ runsOf ls sec, ¬ badRun ls r) ∧ e = .returned (.tuple #[.bool (decide (0 < (runsOf ls sec).length)), .nilIface]) ∧ ∃ L', w'.heap[m]? = some (.cells #[.bool bom, .slice ao (rem ls 0 (runsOf ls sec)).length cap] 30 (0, 0)) ∧ LV w' b (rem ls 0 (runsOf ls sec)).length cap ao L' ∧ L'.take (rem ls 0 (runsOf ls sec)).length = rem ls 0 (runsOf ls sec) ∧ Oth (fun k => k = m ∨ k = b) w w')

theorem runsAt_of_own {W wr : World} {base cp b : Nat} {ao : Option Addr} {R : List (Nat × Nat)} (h : W.ownsRow base 56 2 (.slice ao R.length cp) R.length (flatR R)) (hB : Below W.heap.size W wr) (hb : b < base) : ∃ g, g ≠ b ∧ RunsAt wr g ao R := by
  by_cases hp : 0 < R.length
  · obtain ⟨g, cp', cur, hv, hg1, hg2, hg3⟩ := own_some h hp
    obtain ⟨rfl, _, rfl⟩ := Value.slice.inj hv
    have hglt := lt_of_some hg2
    refine ⟨g, by omega, fun _ => rfl, fun i hi => ?_, fun i hi => ?_⟩
    · rw [hB.cell (by exact hglt), h.cellAt (i * 2) (by omega), flatR_0 R _ hi]
    · rw [hB.cell (by exact hglt), h.cellAt (i * 2 + 1) (by omega), flatR_1 R _ hi]
  · exact ⟨b + 1, by omega, fun h => absurd h hp, fun i hi => absurd hi (by omega), fun i hi => absurd hi (by omega)⟩

theorem Oth.of_below {S : Nat → Prop} {w w' : World} (h : Below w.heap.size w w') : Oth S w w' := ⟨h.os, h.tape, h.output, h.size, fun k hk _ => h.block k hk⟩
theorem below_put {B : Nat} {w W : World} {D : Nat} {o : Obj} (h : Below B w W) (hD : B ≤ D) (hs : B ≤ W.heap.size) : Below B w (W.putObj D o) := h.grown (grownBy_putObj' W D o) hs (fun k e => by cases e; exact hD)
theorem Oth.put {S : Nat → Prop} {w W : World} {D : Nat} {o : Obj} (h : Oth S w W) (hD : w.heap.size ≤ D) : Oth S w (W.putObj D o) :=
  ⟨h.os, h.tape, h.output, Nat.le_trans h.size (grownBy_putObj' W D o).size, fun k hk hs => (World.putObj_heap_other (by omega)).trans (h.block k hk hs)⟩
theorem mem_rat {R : List (Nat × Nat)} {r : Nat × Nat} (h : r ∈ R) : ∃ j, j < R.length ∧ rat R j = r := by
  obtain ⟨j, hj, e⟩ := List.getElem_of_mem h
  exact ⟨j, hj, by unfold rat; rw [List.getD_eq_getElem?_getD, List.getElem?_eq_getElem hj]; exact e⟩

theorem ROk.len {n : Nat} : ∀ {lo : Nat} {R : List (Nat × Nat)}, ROk n lo R → R.length + lo ≤ n
  | _, [], h => by have : _ ≤ n := h; simpa using this
  | _, _ :: _, h => by have := ROk.len h.2.2; have := h.1; have := h.2.1; simp; omega

theorem cell_drew_new (W : World) (c : Array Value) (t : TypeId) (n i : Nat) (hn : n = W.heap.size) : (W.alloc (.cells c t)).drew.cell? ⟨n, i, none⟩ = c[i]? := World.cell?_alloc_at (w := W) c t n i hn

set_option maxHeartbeats 8000000 in
set_option maxRecDepth 100000 in
theorem del_any (sec : ByteArray) (m b k0 cap : Nat) (ao : Option Addr) (bom : Bool) (L : List Ln) (w : World) (hsec : 0 < sec.size)
    (F : Go.Stop.Interp) (hF : F.answers w.tape) (hL : LV w b k0 cap ao L) (hm : w.heap[m]? = some (.cells #[.bool bom, .slice ao k0 cap] 30 (0, 0)))
    (hk0 : k0 ≤ 1048576) (hcap : cap ≤ maxLen) (hsound : ∀ i, i < k0 → (at' (L.take k0) i).k = 2 → ind (at' (L.take k0) i).t < (at' (L.take k0) i).t.size) (htx : ∀ i, i < k0 → (at' (L.take k0) i).t.size ≤ maxLen) :
    Calls Tryf.prog 9 #[.pointer (some ⟨m, 0, none⟩), .string sec] w fun e w' => DelPost (L.take k0) sec m b cap ao bom w e w' := by
  have he := emp_no hsec
  obtain ⟨i0, hi, hz0, hz1, hz2⟩ := info_parts Tryf.info56
  have HL := hide hL
  have HM := hide hm
  have HS := hide hsound
  have HT := hide htx
  clear hL hm hsound htx
  refine (callsIn_wide (n := 4)).1 (callsIn_of_wp_marks Tryf.func9 rfl trivial (wpIn_wide.2 ?_) rfl)
  simp only [Tryf.ntmps9, List.size_toArray, List.length_cons, List.length_nil, Nat.reduceAdd, Nat.reduceSub, Array.replicate_succ, Array.replicate_zero, List.push_toArray, List.append_toArray, List.nil_append, List.cons_append]
  go_wp2_with (go_at_call 17; refine (parts_make _ _).mono ?_; rintro e w' ⟨rfl, rfl⟩)
  obtain ⟨W0, hW0⟩ : ∃ W0, ((w.alloc (.cells #[.string sec] 9)).alloc (.cells #[.slice none 0 0] 49)).alloc (.cells #[.pointer (some ⟨m, 0, none⟩)] 26) = W0 := ⟨_, rfl⟩
  have hsz0 : W0.heap.size = w.heap.size + 3 := by rw [← hW0]; simp
  have hB0 : Below w.heap.size w W0 := by rw [← hW0]; exact (((Below.refl _ _).alloc (Nat.le_refl _) _).alloc (by simp) _).alloc (by simp; omega) _
  have hs0 : W0.heap[w.heap.size]? = some (.cells #[.string sec] 9 (0, 0)) := by
    rw [← hW0, Below.heap_alloc _ _ _ (by simp; omega), Below.heap_alloc _ _ _ (by simp)]; exact heap_alloc_new _ _
  have hr0 : W0.heap[w.heap.size + 1]? = some (.cells #[.slice none 0 0] 49 (0, 0)) := by
    rw [← hW0, Below.heap_alloc _ _ _ (by simp)]; have := heap_alloc_new (w.alloc (.cells #[.string sec] 9)) (.cells #[.slice none 0 0] 49); rwa [World.size_alloc] at this
  have hp0 : W0.heap[w.heap.size + 1 + 1]? = some (.cells #[.pointer (some ⟨m, 0, none⟩)] 26 (0, 0)) := by
    rw [← hW0]; have := heap_alloc_new ((w.alloc (.cells #[.string sec] 9)).alloc (.cells #[.slice none 0 0] 49)) (.cells #[.pointer (some ⟨m, 0, none⟩)] 26); rwa [World.size_alloc, World.size_alloc] at this
  rw [hW0]
  clear hW0
  have old : ∀ {k : Nat} {o : Obj}, w.heap[k]? = some o → W0.heap[k]? = some o := fun {k o} h => (hB0.block k (lt_of_some h)).trans h
  refine wpIn_wide.1 (rangeFunc_gives (n := 4) (F := Fence.wide) rfl (by omega) (gf := 25) (lb := #[.pointer (some ⟨w.heap.size + 1 + 1, 0, none⟩)]) rfl trivial (enters_of Tryf.func25 (by kernel_rfl) rfl) (encs := encP) (own := ownT) (Kp := Kp) (xs := allParts (L.take k0)) (w0 := W0)
    (parts_gives 3 (by omega) m b k0 cap (w.heap.size + 1 + 1) ao bom L W0 (HL.out.kept (fun x => old x)) (old HM.out) hp0 hk0 HS.out HT.out) (fun h k => h.trans k) (fun W l o o' h ho => Kp.putObj W l o o' h ho) (Below.refl _ _) (fun _ => rfl)
    (Iv sec w.heap.size (w.heap.size + 1) (w.heap.size + 2) w) (bears_Iv _ _ _ _ _ _ (by omega)) (fun s W l o o' h hl hc ho => h.putObj o' (by omega) hc ho) ⟨hs0, ⟨_, hr0, World.ownsRow_nil _ _ _ _⟩, hB0⟩
    (AxP sec m w) (fun x a' W l o o' h hl hc ho => by
      obtain ⟨Bx, h1, h2⟩ := h
      exact ⟨Bx, (World.putObj_heap_other (fun e => by subst e; rw [hc] at h1; cases h1; cases ho)).trans h1, h2⟩) ?assign ?body ?done)
  case assign =>
    rintro l pre x W K hi hpx hK
    dsimp only [encP]
    gi_wp2
    exact hK _ _ ((KeepsOthers.alloc _ _).from _) ((Kp.refl _).alloc _) (hi.alloc _) ⟨W.heap.size, heap_alloc_new _ _, rfl⟩
  case body =>
    rintro l pre x a' W hI ⟨Bx, hbx, rfl⟩ hpx
    have hxm : x ∈ allParts (L.take k0) := hpx.subset (by simp)
    have hok := allParts_ok _ x hxm
    have hl0 : (L.take k0).length = k0 := HL.out.len.1
    rw [hl0] at hok
    have hplen : pre.length + 1 ≤ k0 + 1 := by
      have h1 := hpx.length_le
      have h2 := allParts_length (L.take k0)
      rw [hl0] at h2
      simp at h1; omega
    have hRl := foldR_length sec pre
    have hsn := foldR_snoc sec pre x
    obtain ⟨R, hR⟩ : ∃ R, foldR sec pre = R := ⟨_, rfl⟩
    obtain ⟨h1, ⟨v, h2, h3⟩, h4⟩ := hI
    rw [hR] at h3 hRl hsn
    have cs : W.cell? ⟨w.heap.size, 0, none⟩ = some (.string sec) := by rw [cell_of_row W _ 0 _ _ _ h1]; rfl
    have cv : W.cell? ⟨w.heap.size + 1, 0, none⟩ = some v := by rw [cell_of_row W _ 0 _ _ _ h2]; rfl
    have fv : W.frozen? ⟨w.heap.size + 1, 0, none⟩ = false := frozen_of_row W _ 0 _ _ h2
    have x0 : W.cell? ⟨Bx, 0, none⟩ = some (.string x.nm) := by rw [cell_of_row W _ 0 _ _ _ hbx]; rfl
    have x1 : W.cell? ⟨Bx, 1, none⟩ = some (.int .i64 x.h) := by rw [cell_of_row W _ 1 _ _ _ hbx]; rfl
    have x2 : W.cell? ⟨Bx, 2, none⟩ = some (.int .i64 x.e) := by rw [cell_of_row W _ 2 _ _ _ hbx]; rfl
    obtain ⟨nm, ph, pe⟩ := x
    simp only at x0 x1 x2 hok
    simp only [List.cons_append, List.nil_append]
    have H1 := hide h1
    have H2 := hide h2
    have H3 := hide h3
    have H4 := hide h4
    have HSN := hide hsn
    have HOK := hide hok
    clear h1 h2 h3 h4 hsn hok hpx hxm hbx hs0 hr0 hp0 old hl0
    by_cases hnm : nm = sec
    · subst hnm
      obtain ⟨ha, hha, hal⟩ := HOK.out.2.2.2.2 (fun e => by have e' : nm = ByteArray.empty := e; rw [e'] at hsec; exact absurd hsec (by decide))
      simp only at hha hal
      subst hha
      obtain ⟨ea, hea⟩ : ∃ ea : Nat, pe = ea := ⟨pe.toNat, by have := HOK.out.2.2.1; simp only at this; omega⟩
      subst hea
      have heb : ea ≤ k0 := by have := HOK.out.2.2.2.1; simp only at this; omega
      clear HOK
      by_cases hj : R ≠ [] ∧ ((rat R (R.length - 1)).2 : Int) = (ha : Int)
      · -- the run goes on
        obtain ⟨hne, hjj⟩ := hj
        have hpos : 0 < R.length := by
          have : R.length ≠ 0 := fun e => hne (List.eq_nil_of_length_eq_zero e)
          omega
        obtain ⟨g, cp, cur, hv, hg1, hg2, hg3⟩ := own_some H3.out hpos
        subst hv
        have cr : W.cell? ⟨g, (R.length - 1) * 2 + 1, none⟩ = some (.int .i64 ha) := by
          have := H3.out.cellAt ((R.length - 1) * 2 + 1) (by omega)
          rw [this, flatR_1 R _ (by omega), hjj]
        have fr : W.frozen? ⟨g, (R.length - 1) * 2 + 1, none⟩ = false := frozen_of_row W _ _ _ _ hg2
        have hp1 : (0 : Int) < (R.length : Int) := by omega
        have hp2 : (0 : Int) ≤ (R.length : Int) - 1 := by omega
        have hp3 : (R.length : Int) - 1 < (R.length : Int) := by omega
        have hp4 : IntKind.i64.wrap ((R.length : Int) - 1) = (R.length : Int) - 1 := IntWalk.i64_in _ (by omega)
        have hp5 : ((R.length : Int) - 1).toNat = R.length - 1 := by omega
        gi_wp2
        refine region_quiet_round (by kernel_rfl) (by kernel_rfl) (by kernel_rfl) ?_
        repeat (gi_big_quiet_step (fail))
        refine wpQuietIn_nil ?_
        intro _ hw'
        obtain ⟨nq, hw''⟩ := hw'
        subst hw''
        gi_wp2
        exact post_join H1.out H2.out H3.out H4.out hg2 (by omega) hg1 hne (by rw [HSN.out, stepR_join (p := ⟨nm, ha, ea⟩) rfl hne hjj]; simp)
      · have hnw : foldR nm (pre ++ [⟨nm, ha, ea⟩]) = R ++ [(ha, ea)] := by rw [HSN.out, stepR_new (p := ⟨nm, ha, ea⟩) rfl hj]; simp
        clear HSN
        obtain ⟨ao', cp', hv⟩ := own_shape H3.out
        subst hv
        by_cases hne : R = []
        · have hz : R.length = 0 := by rw [hne]; rfl
          have hp1 : decide (0 < R.length) = false := by rw [hz]; rfl
          clear hne hz
          gi_wp2
          refine region_quiet_round (by kernel_rfl) (by kernel_rfl) (by kernel_rfl) ?_
          repeat (gi_big_quiet_step (fail))
          refine wpQuietIn_nil ?_
          intro _ hw'
          obtain ⟨nq, hw''⟩ := hw'
          subst hw''
          gi_wp2_with (gi_at_builtin; refine wpListIn_append_own _ rfl _ _ 49 rfl (w.heap.size + 2) 56 i0 (.agg #[.int .i64 0, .int .i64 0]) 2 16 Tryf.underlying49 hi hz0 hz1 hz2 rfl (by decide) (.slice ao' R.length cp') R.length (flatR R) rfl (World.ownsRow.alloc (w := W.drewN nq) (by exact H3.out) _) ⟨W.heap.size, 0, none⟩ 1 1 [.int .i64 ha, .int .i64 ea] rfl rfl (cell_two_new (W.drewN nq) _ _ _) (by simp [Value.oneCell']) (by unfold maxLen; omega) (by omega) (by have := lt_of_some H2.out; simp; omega) ?_; intro v' W1 hown' hgrow' hnil'; have hB1 : W1.heap[w.heap.size + 1]? = some (.cells #[(.slice ao' R.length cp')] 49 (0, 0)) := (hgrow'.block _ (by have := lt_of_some H2.out; simp; omega) (ne_own H2.out H3.out)).trans ((Below.heap_alloc _ _ _ (lt_of_some H2.out)).trans H2.out); have fB1 : W1.frozen? ⟨w.heap.size + 1, 0, none⟩ = false := frozen_of_row W1 _ 0 _ _ hB1; have cB1 : W1.cell? ⟨w.heap.size + 1, 0, none⟩ = some (.slice ao' R.length cp') := (by rw [cell_of_row W1 _ 0 _ _ _ hB1]; rfl); obtain ⟨g', cap', hv'⟩ := ownsRow_succ hown'; subst hv')
          exact post_new H1.out H2.out H3.out H4.out (Wa := (W.drewN nq).alloc (.cells #[.int .i64 ha, .int .i64 ea] 56)) (fun k hk => Below.heap_alloc _ _ _ hk) (by simp) (Below.alloc (w := W.drewN nq) ⟨H4.out.os, H4.out.tape, H4.out.output, H4.out.size, H4.out.block⟩ H4.out.size _) hgrow' hown' (by omega) (by omega) hnw
        · have hpos : 0 < R.length := by
            have : R.length ≠ 0 := fun e => hne (List.eq_nil_of_length_eq_zero e)
            omega
          obtain ⟨g, cp, cur, hv, hg1, hg2, hg3⟩ := own_some H3.out hpos
          obtain ⟨rfl, _, rfl⟩ := Value.slice.inj hv
          have hjj : ¬ (((rat R (R.length - 1)).2 : Int) = (ha : Int)) := fun e => hj ⟨hne, e⟩
          have cr : W.cell? ⟨g, (R.length - 1) * 2 + 1, none⟩ = some (.int .i64 (rat R (R.length - 1)).2) := by
            have := H3.out.cellAt ((R.length - 1) * 2 + 1) (by omega)
            rw [this, flatR_1 R _ (by omega)]
          have hjd : decide (((rat R (R.length - 1)).2 : Int) = (ha : Int)) = false := by simp [hjj]
          have hp1 : (0 : Int) < (R.length : Int) := by omega
          have hp2 : (0 : Int) ≤ (R.length : Int) - 1 := by omega
          have hp3 : (R.length : Int) - 1 < (R.length : Int) := by omega
          have hp4 : IntKind.i64.wrap ((R.length : Int) - 1) = (R.length : Int) - 1 := IntWalk.i64_in _ (by omega)
          have hp5 : ((R.length : Int) - 1).toNat = R.length - 1 := by omega
          gi_wp2
          refine region_quiet_round (by kernel_rfl) (by kernel_rfl) (by kernel_rfl) ?_
          repeat (gi_big_quiet_step (fail))
          refine wpQuietIn_nil ?_
          intro _ hw'
          obtain ⟨nq, hw''⟩ := hw'
          subst hw''
          gi_wp2_with (gi_at_builtin; refine wpListIn_append_own _ rfl _ _ 49 rfl (w.heap.size + 2) 56 i0 (.agg #[.int .i64 0, .int .i64 0]) 2 16 Tryf.underlying49 hi hz0 hz1 hz2 rfl (by decide) (.slice (some ⟨g, 0, none⟩) R.length cp') R.length (flatR R) rfl (World.ownsRow.alloc (w := W.drewN nq) (by exact H3.out) _) ⟨W.heap.size, 0, none⟩ 1 1 [.int .i64 ha, .int .i64 ea] rfl rfl (cell_two_new (W.drewN nq) _ _ _) (by simp [Value.oneCell']) (by unfold maxLen; omega) (by omega) (by have := lt_of_some H2.out; simp; omega) ?_; intro v' W1 hown' hgrow' hnil'; have hB1 : W1.heap[w.heap.size + 1]? = some (.cells #[(.slice (some ⟨g, 0, none⟩) R.length cp')] 49 (0, 0)) := (hgrow'.block _ (by have := lt_of_some H2.out; simp; omega) (ne_own H2.out H3.out)).trans ((Below.heap_alloc _ _ _ (lt_of_some H2.out)).trans H2.out); have fB1 : W1.frozen? ⟨w.heap.size + 1, 0, none⟩ = false := frozen_of_row W1 _ 0 _ _ hB1; have cB1 : W1.cell? ⟨w.heap.size + 1, 0, none⟩ = some (.slice (some ⟨g, 0, none⟩) R.length cp') := (by rw [cell_of_row W1 _ 0 _ _ _ hB1]; rfl); obtain ⟨g', cap', hv'⟩ := ownsRow_succ hown'; subst hv')
          exact post_new H1.out H2.out H3.out H4.out (Wa := (W.drewN nq).alloc (.cells #[.int .i64 ha, .int .i64 ea] 56)) (fun k hk => Below.heap_alloc _ _ _ hk) (by simp) (Below.alloc (w := W.drewN nq) ⟨H4.out.os, H4.out.tape, H4.out.output, H4.out.size, H4.out.block⟩ H4.out.size _) hgrow' hown' (by omega) (by omega) hnw
    · have tn : (nm.toList == sec.toList) = false := by
        rw [ByteArray.toList_eq, ByteArray.toList_eq]
        simp only [beq_eq_false_iff_ne]
        intro h; apply hnm
        exact ByteArray.ext (by exact Array.toList_inj.1 h)
      gi_wp2
      exact ⟨KeepsFrom.refl _ _, Kp.refl _, ⟨H1.out, ⟨v, H2.out, by rw [HSN.out, stepR_no (by exact hnm)]; exact H3.out⟩, H4.out⟩⟩
  case done =>
    rintro D W hD hI hK
    obtain ⟨h1, ⟨v, h2, h3⟩, h4⟩ := hI
    obtain ⟨R, hR⟩ : ∃ R, foldR sec (allParts (L.take k0)) = R := ⟨_, rfl⟩
    have hRl : R.length ≤ k0 + 1 := by
      have h1 := foldR_length sec (allParts (L.take k0))
      have h2 := allParts_length (L.take k0)
      rw [HL.out.len.1] at h2; rw [hR] at h1; omega
    rw [hR] at h3
    have hL' : LV W b k0 cap ao L := HL.out.kept (fun x => (h4.block b (lt_of_some x)).trans x)
    have hm' : W.heap[m]? = some (.cells #[.bool bom, .slice ao k0 cap] 30 (0, 0)) := (h4.block m (lt_of_some HM.out)).trans HM.out
    obtain ⟨aor, cpr, hv⟩ := own_shape h3
    subst hv
    have cs : W.cell? ⟨w.heap.size, 0, none⟩ = some (.string sec) := by rw [cell_of_row W _ 0 _ _ _ h1]; rfl
    have cv : W.cell? ⟨w.heap.size + 1, 0, none⟩ = some (.slice aor R.length cpr) := by rw [cell_of_row W _ 0 _ _ _ h2]; rfl
    have HL0 := HL
    have hm0 : m < w.heap.size := lt_of_some HM.out
    clear HL HM
    have HL := hide hL'
    have HM := hide hm'
    have H1 := hide h1
    have H2 := hide h2
    have H3 := hide h3
    have H4 := hide h4
    have HK := hide hK
    clear hL' hm' h1 h2 h3 h4 hK hs0 hr0 hp0 old hB0 hi hz0 hz1 hz2
    have hF' : Hid (F.answers W.tape) := by have := hF; rw [← H4.out.tape] at this; exact this
    clear hF
    have hRS := runsOf_spec (L.take k0) sec (fun e => by rw [e] at hsec; exact absurd hsec (by decide))
    have hRR : runsOf (L.take k0) sec = R := hR
    rw [hRR, HL.out.len.1] at hRS
    have HRS := hide hRS.1
    have HRR := hide hRR
    clear hRS hRR hR
    have hmlt : m < W.heap.size := lt_of_some HM.out
    go_wp2
    go_loopw [54] (fun ti wr => ∃ i : Nat, i ≤ R.length ∧ ti = .int .i64 i ∧ Hid (∀ j, j < i → ¬ badRun (L.take k0) (rat R j)) ∧ Hid (Below W.heap.size W wr)) (fun ti _ => R.length - (intOf ti).toNat)
    case atStart => exact ⟨0, Nat.zero_le _, rfl, fun j h => absurd h (Nat.not_lt_zero _), Below.refl _ _⟩
    case round =>
      obtain ⟨i, hiR, rfl, HBad, HB⟩ := hrel
      by_cases hlt : i < R.length
      · obtain ⟨a, e, hae⟩ : ∃ a e, rat R i = (a, e) := ⟨_, _, rfl⟩
        obtain ⟨g, cp, cur, hv, hg1, hg2, hg3⟩ := own_some H3.out (by omega)
        obtain ⟨rfl, _, rfl⟩ := Value.slice.inj hv
        have hglt := lt_of_some hg2
        have hmem : (a, e) ∈ R := by rw [← hae]; exact rat_mem hlt
        have hra := HRS.out.1 _ hmem
        simp only at hra
        have cr0 : wr.cell? ⟨g, i * 2, none⟩ = some (.int .i64 a) := by
          rw [HB.out.cell (by exact hglt), H3.out.cellAt (i * 2) (by omega), flatR_0 R _ hlt, hae]
        have cr1 : wr.cell? ⟨g, i * 2 + 1, none⟩ = some (.int .i64 e) := by
          rw [HB.out.cell (by exact hglt), H3.out.cellAt (i * 2 + 1) (by omega), flatR_1 R _ hlt, hae]
        have HBa : Hid (Below W.heap.size W (wr.alloc (.cells #[.int .i64 a, .int .i64 e] 56))) := HB.out.alloc HB.out.size _
        have HE := hide (ent_any m b k0 cap a ao (L.take k0) (wr.alloc (.cells #[.int .i64 a, .int .i64 e] 56)) HL.out.len.1 hk0 (by omega)
          (HL.out.kept (fun x => (HBa.out.block b (lt_of_some x)).trans x)).lies (by rw [HBa.out.cell (by exact hmlt), cell_of_row W _ 1 _ _ _ HM.out]; rfl))
        have HAE := hide hae
        clear hae hv hg2 hmem
        go_wp2_with (go_at_call 18; refine HE.out.mono ?_; rintro e w' ⟨rfl, hw⟩; have hw' := hw.symm; subst hw')
        have hel := entB_lt (L.take k0) a
        have HS := HBa
        have cm : (wr.alloc (.cells #[.int .i64 a, .int .i64 e] 56)).cell? ⟨m, 1, none⟩ = some (.slice ao k0 cap) := by rw [HBa.out.cell (by exact hmlt), cell_of_row W _ 1 _ _ _ HM.out]; rfl
        have cx0 : (wr.alloc (.cells #[.int .i64 a, .int .i64 e] 56)).cell? ⟨wr.heap.size, 0, none⟩ = some (.int .i64 a) := by rw [World.cell?_alloc_at _ _ _ _ rfl]; rfl
        have cx1 : (wr.alloc (.cells #[.int .i64 a, .int .i64 e] 56)).cell? ⟨wr.heap.size, 1, none⟩ = some (.int .i64 e) := by rw [World.cell?_alloc_at _ _ _ _ rfl]; rfl
        have hLa : LV (wr.alloc (.cells #[.int .i64 a, .int .i64 e] 56)) b k0 cap ao L := HL.out.kept (fun x => (HBa.out.block b (lt_of_some x)).trans x)
        have hsz : wr.heap.size < (wr.alloc (.cells #[.int .i64 a, .int .i64 e] 56)).heap.size := by simp
        have hW : W.heap.size ≤ wr.heap.size := HB.out.size
        obtain ⟨X, hX⟩ : ∃ X, wr.alloc (.cells #[.int .i64 a, .int .i64 e] 56) = X := ⟨_, rfl⟩
        rw [hX] at cm cx0 cx1 hLa hsz HBa ⊢
        obtain ⟨B, hBw⟩ : ∃ B, wr.heap.size = B := ⟨_, rfl⟩
        rw [hBw] at cx0 cx1 hsz hW ⊢
        clear hX hBw HE HS cr0 cr1 HB
        have hll := HL.out.len.1
        obtain ⟨E, hE0⟩ : ∃ E, entB (L.take k0) a = E := ⟨_, rfl⟩
        rw [hE0] at hel ⊢
        by_cases hE : 0 ≤ E
        · obtain ⟨q, rfl⟩ : ∃ q : Nat, E = q := ⟨E.toNat, by omega⟩
          by_cases hN : e < k0
          · have hp : 0 < (L.take k0).length := by omega
            have hao := hLa.lies.ao hp
            subst hao
            have u0 := hLa.lies.c0 e (by omega)
            have u1 := hLa.lies.c1 e (by omega)
            have u2 := hLa.lies.c2 e (by omega)
            have v0 := hLa.lies.c0 q (by omega)
            have v1 := hLa.lies.c1 q (by omega)
            have v2 := hLa.lies.c2 q (by omega)
            have te := HT.out e hN
            have tq := HT.out q (by omega)
            have HLE := hide hE0
            have hq1 : q < k0 := by omega
            clear hE0 hp hel hE
            obtain ⟨⟨et, ek, ee⟩, hle⟩ : ∃ l, at' (L.take k0) e = l := ⟨_, rfl⟩
            obtain ⟨⟨qt, qk, qe⟩, hlq⟩ : ∃ l, at' (L.take k0) q = l := ⟨_, rfl⟩
            rw [hle] at u0 u1 u2 te
            rw [hlq] at v0 v1 v2 tq
            simp only at u0 u1 u2 te v0 v1 v2 tq
            have I1 := hide (fun w => lineIndent_any et ek ee w te)
            have I2 := hide (fun w => lineIndent_any qt qk qe w tq)
            have HLa := hide hLa
            have Hle := hide hle
            have Hlq := hide hlq
            clear hLa hle hlq te tq
            have hq2 : (q : Int) < (k0 : Int) := by omega
            have hq3 : (0 : Int) ≤ (q : Int) := by omega
            have hq4 : (e : Int) < (k0 : Int) := by omega
            have hq5 : (0 : Int) ≤ (e : Int) := by omega
            go_region_held3 (fun w' => w'.cell? ⟨m, 1, none⟩ = some (.slice (some ⟨b, 0, none⟩) k0 cap) ∧ w'.cell? ⟨B, 1, none⟩ = some (.int .i64 e) ∧ w'.cell? ⟨b, e * 3, none⟩ = some (.string et) ∧ w'.cell? ⟨b, e * 3 + 1, none⟩ = some (.int .u8 ek) ∧ w'.cell? ⟨b, e * 3 + 2, none⟩ = some (.int .u8 ee) ∧ w'.cell? ⟨b, q * 3, none⟩ = some (.string qt) ∧ w'.cell? ⟨b, q * 3 + 1, none⟩ = some (.int .u8 qk) ∧ w'.cell? ⟨b, q * 3 + 2, none⟩ = some (.int .u8 qe)) (go_keep) (first | (go_at_call 19; refine (I1.out _).mono ?_; rintro e w' ⟨rfl, rfl⟩) | (go_at_call 19; refine (I2.out _).mono ?_; rintro e w' ⟨rfl, rfl⟩))
            have csX : X.cell? ⟨w.heap.size, 0, none⟩ = some (.string sec) := by rw [HBa.out.cell (by exact lt_of_some H1.out)]; exact cs
            have hbX : b < X.heap.size := by
              rcases HLa.out with ⟨h, _⟩ | ⟨_, _, _, h⟩
              · cases h
              · exact lt_of_some h
            by_cases hI : ind qt < ind et
            · have hbad : badRun (L.take k0) (a, e) := ⟨by simp only [HLE.out]; omega, by simp only; omega, by simp only [HLE.out, Int.toNat_natCast, Hle.out, Hlq.out]; exact hI⟩
              have hmem : (a, e) ∈ R := by rw [← HAE.out]; exact rat_mem hlt
              have HBZ : Hid (Below W.heap.size W ((X.alloc (.cells #[.string et, .int .u8 ek, .int .u8 ee] 42)).alloc (.cells #[.string qt, .int .u8 qk, .int .u8 qe] 42)).drew) := ((HBa.out.alloc (by omega) _).alloc (by simp; omega) _).drew
              have hw0 : w.heap.size < X.heap.size := by have := lt_of_some H1.out; omega
              have HBAD := hide hbad
              clear hbad
              go_wp2_with (go_at_call 20; go_loud (refine (errorf_any F sec _ _ (X.heap.size + 1 + 1) _ (by have := hF'.out; rw [← HBa.out.tape] at this; exact this) ((cell_drew_new _ _ _ _ 0 (by simp)).trans rfl) ((cell_drew_new _ _ _ _ 1 (by simp)).trans rfl) ((cell_drew_new _ _ _ _ 2 (by simp)).trans rfl)).mono ?_); rintro e w' ⟨⟨v, rfl⟩, hb⟩)
              have hsa := H4.out.size
              have hDW := lt_of_some HK.out
              have hbz : Below W.heap.size W w' := by
                refine Below.trans ?_ (hb.mono ?_)
                · exact (((HBa.out.alloc (by omega) _).alloc (by simp; omega) _).alloc (by simp; omega) _).drew
                · simp; omega
              refine ⟨by simp, .inl ⟨_, _, rfl, run_takeDeferred ((hbz.block D hDW).trans HK.out), ?_⟩⟩
              exact ⟨_, results_tmp2 rfl _ _ _, .inl ⟨⟨_, by rw [HRR.out]; exact hmem, HBAD.out⟩, ⟨_, rfl⟩, below_put (H4.out.trans (hbz.mono hsa)) (by omega) (by have := hbz.size; omega)⟩⟩
            · have hId : decide (ind qt < ind et) = false := by simp; omega
              go_wp2
              go_roundw
              case rel => exact ⟨i + 1, by omega, by go_num, notbad_snoc HBad.out HAE.out (fun h => by have h3 := h.2.2; simp only [HLE.out, Int.toNat_natCast, Hle.out, Hlq.out] at h3; exact hI h3), ((HBa.out.alloc (by omega) _).alloc (by simp; omega) _).drew⟩
              case measure => simp [intOf]; omega
          · have hNd : decide ((e : Int) < (k0 : Int)) = false := by simp; omega
            have hNd' : decide (e < k0) = false := by simp; omega
            go_quiet (fail)
            go_wp2
            go_roundw
            case rel => exact ⟨i + 1, by omega, by go_num, notbad_snoc HBad.out HAE.out (fun h => by have h3 := h.2.1; simp only at h3; omega), ⟨HBa.out.os, HBa.out.tape, HBa.out.output, HBa.out.size, HBa.out.block⟩⟩
            case measure => simp [intOf]; omega
        · have hEd : decide ((0 : Int) ≤ E) = false := by simp; omega
          go_quiet (fail)
          go_wp2
          go_roundw
          case rel => exact ⟨i + 1, by omega, by go_num, notbad_snoc HBad.out HAE.out (fun h => by have h3 := h.1; simp only [hE0] at h3; omega), ⟨HBa.out.os, HBa.out.tape, HBa.out.output, HBa.out.size, HBa.out.block⟩⟩
          case measure => simp [intOf]; omega
      · have hiR : i = R.length := by omega
        subst hiR
        have hall : ∀ r ∈ R, ¬ badRun (L.take k0) r := fun r hr => by obtain ⟨j, hj, rfl⟩ := mem_rat hr; exact HBad.out j hj
        have HALL := hide hall
        clear hall HBad
        have cvr : wr.cell? ⟨w.heap.size + 1, 0, none⟩ = some (.slice aor R.length cpr) := by rw [HB.out.cell (by exact lt_of_some H2.out)]; exact cv
        have hmr := (HB.out.block m hmlt).trans HM.out
        rcases HL0.out with ⟨rfl, rfl, rfl, rfl⟩ | ⟨rfl, h1, h2, h3⟩
        · have hR0 : R = [] := by
            rcases R with _ | ⟨r, R'⟩
            · rfl
            · have := HRS.out.1 r (by simp); omega
          subst hR0
          have HC := hide (remove_nil m cpr aor bom wr hmr)
          clear hmr
          go_wp2_with (go_at_call 21; refine HC.out.mono ?_; rintro e w' ⟨rfl, hm3, hO3⟩; have c3 : w'.cell? ⟨w.heap.size + 1, 0, none⟩ = some (.slice aor 0 cpr) := hO3.cell (by exact cvr) (show ¬ w.heap.size + 1 = m by omega); have HM3 := hide hm3; have HO3 := hide hO3; clear hm3 hO3)
          have hK3 : w'.heap[D]? = some (.deferred (some [])) := HO3.out.some ((HB.out.block D (lt_of_some HK.out)).trans HK.out) (show ¬ D = m by omega)
          refine ⟨by simp, .inl ⟨_, _, rfl, run_takeDeferred hK3, ?_⟩⟩
          refine ⟨_, results_tmp2 rfl _ _ _, .inr ⟨by rw [HRR.out]; exact HALL.out, by rw [HRR.out]; rfl, [], ?_, ?_, ?_, ?_⟩⟩
          · rw [HRR.out]; exact (World.putObj_heap_other (by omega)).trans HM3.out
          · rw [HRR.out]; exact .inl ⟨rfl, rfl, rfl, rfl⟩
          · rw [HRR.out]; rfl
          · exact Oth.put (((Oth.of_below H4.out).trans (Oth.of_below (HB.out))).trans (HO3.out.weaken (fun k h => .inl h))) (by omega)
        · have hll0 := HL.out.len.1
          have hH : Holds wr b L := (HB.out.block b (by have := lt_of_some h3; have := H4.out.size; omega)).trans ((H4.out.block b (lt_of_some h3)).trans h3)
          obtain ⟨g, hgb, hRA⟩ := runsAt_of_own H3.out HB.out (b := b) (by have := lt_of_some h3; omega)
          have hrok : ROk k0 0 R := RS.rok HRS.out 0 (Nat.zero_le _) (fun _ _ => Nat.zero_le _)
          have hrl := hrok.len
          have hrc : (rem (L.take k0) 0 R).length ≤ cap := by
            have := rem_length (L.take k0) 0 R (by rw [hll0]; exact hrok)
            rw [hll0] at this; omega
          have HC := hide (remove_some m b k0 cap g cpr aor bom L R wr hmr hH h2 h1 hk0 hRA hrok (by omega) hgb hcap)
          have hb0 := lt_of_some h3
          clear hmr hRA hH h1 h2 h3 hrok
          go_wp2_with (go_at_call 21; refine HC.out.mono ?_; rintro e w' ⟨rfl, L', hm3, hH3, hl3, ht3, hO3⟩; have c3 : w'.cell? ⟨w.heap.size + 1, 0, none⟩ = some (.slice aor R.length cpr) := hO3.cell cvr (by omega); have HM3 := hide hm3; have HO3 := hide hO3; have HH3 := hide hH3; have HT3 := hide ht3; clear hm3 hO3 hH3 ht3)
          have hK3 : w'.heap[D]? = some (.deferred (some [])) := HO3.out.some ((HB.out.block D (lt_of_some HK.out)).trans HK.out) (show ¬ (D = m ∨ D = b) by omega)
          refine ⟨by simp, .inl ⟨_, _, rfl, run_takeDeferred hK3, ?_⟩⟩
          refine ⟨_, results_tmp2 rfl _ _ _, .inr ⟨by rw [HRR.out]; exact HALL.out, by rw [HRR.out]; rfl, L', ?_, ?_, ?_, ?_⟩⟩
          · rw [HRR.out]; exact (World.putObj_heap_other (by omega)).trans HM3.out
          · rw [HRR.out]; exact .inr ⟨rfl, hrc, hl3, (World.putObj_heap_other (by omega)).trans HH3.out⟩
          · rw [HRR.out]; exact HT3.out
          · exact Oth.put (((Oth.of_below H4.out).trans (Oth.of_below (HB.out))).trans HO3.out) (by omega)
#print axioms del_any
end Go.Proofs.Qxb6603539aFmt.Ds

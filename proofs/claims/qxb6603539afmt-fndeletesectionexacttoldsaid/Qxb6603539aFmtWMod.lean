/-
  zzDeleteModel: what DeleteSection should leave.
-/
import Derived.Test.Qxb6603539aFmtWM
namespace Go.Proofs.Qxb6603539aFmt.Ds
open Go.RowKit

theorem Tryf.info4 : (Tryf.prog.info? 4).map (fun i => (i.zero, i.size, i.bytes)) = some (some (.bool false), 1, 1) := by kernel_rfl

/-- The row 'gone' when i of its n places have been laid. -/
def gl (n : Nat) (G : Nat → Bool) (i : Nat) : List Value := (List.range n).map fun j => .bool (if j < i then G j else false)
theorem gl_length (n : Nat) (G : Nat → Bool) (i : Nat) : (gl n G i).length = n := by simp [gl]
theorem gl_at {n j : Nat} (G : Nat → Bool) (i : Nat) (h : j < n) : (gl n G i)[j]? = some (.bool (if j < i then G j else false)) := by simp [gl, h]
theorem gl_zero (n : Nat) (G : Nat → Bool) : List.replicate n (.bool false) = gl n G 0 := by
  apply List.ext_getElem?
  intro j
  by_cases h : j < n
  · rw [gl_at G 0 h]; simp [h]
  · rw [List.getElem?_eq_none (by simpa using h), List.getElem?_eq_none (by rw [gl_length]; omega)]
theorem gl_set {n i : Nat} (G : Nat → Bool) (h : i < n) : (gl n G i).set i (.bool (G i)) = gl n G (i + 1) := by
  apply List.ext_getElem?
  intro j
  by_cases hj : j < n
  · rw [gl_at G _ hj, List.getElem?_set]
    by_cases e : i = j
    · subst e; simp [gl_length, h]
    · rw [if_neg e, gl_at G _ hj]
      by_cases h1 : j < i
      · simp [h1, show j < i + 1 by omega]
      · simp [h1, show ¬ j < i + 1 by omega]
  · rw [List.getElem?_eq_none (by rw [List.length_set, gl_length]; omega), List.getElem?_eq_none (by rw [gl_length]; omega)]

theorem str_nq {a b : ByteArray} (h : a ≠ b) : (a.toList == b.toList) = false := by
  rw [ByteArray.toList_eq, ByteArray.toList_eq]
  simp only [beq_eq_false_iff_ne]
  intro e; apply h
  exact ByteArray.ext (by exact Array.toList_inj.1 e)

/-- Is one of the first i lines gone? -/
def fB (G : Nat → Bool) : Nat → Bool
  | 0 => false
  | i + 1 => fB G i || G i
theorem fB_iff (G : Nat → Bool) : ∀ i, fB G i = true ↔ ∃ j, j < i ∧ G j = true
  | 0 => by simp [fB]
  | i + 1 => by
    unfold fB
    rw [Bool.or_eq_true, fB_iff G i]
    constructor
    · rintro (⟨j, hj, h⟩ | h)
      · exact ⟨j, by omega, h⟩
      · exact ⟨i, by omega, h⟩
    · rintro ⟨j, hj, h⟩
      by_cases e : j = i
      · subst e; exact .inr h
      · exact .inl ⟨j, by omega, h⟩
theorem fB_true {G : Nat → Bool} {i j : Nat} (hj : j < i) (h : G j = true) : fB G i = true := (fB_iff G i).2 ⟨j, hj, h⟩

theorem results_tmp3 {fn : Func} {t u v : Tmp} (h : fn.results = #[.tmp t, .tmp u, .tmp v]) (tmps : Array Value) (P : Program) (w : World) :
    (results fn tmps).run P w = .ok (.tuple #[tmps.getD t undef, tmps.getD u undef, tmps.getD v undef]) w := by
  simp [results, h]

theorem model_empty (ao : Option Addr) (n cap : Nat) (sec : ByteArray) (w : World) (hs : sec.size = 0) :
    Calls Tryf.prog 10 #[.slice ao n cap, .string sec] w fun e w' => e = .returned (.tuple #[.slice ao n cap, .bool false, .bool true]) ∧ w' = w := by
  have he := emp_yes hs
  go_enter Tryf.func10, Tryf.ntmps10
  go_wp2
  refine bodyPost_ret (results_tmp3 rfl _ _ _) rfl ?_
  exact ⟨rfl, rfl⟩

theorem kept_len (ls : List Ln) (g : Nat → Bool) : ∀ k lo, (kept ls g lo k).length ≤ k
  | 0, _ => Nat.le_refl _
  | k + 1, lo => by
    unfold kept
    have := kept_len ls g k (lo + 1)
    rw [List.length_append]
    split
    · simp; omega
    · simp; omega
theorem lies_of_own {w : World} {base : Nat} {v : Value} {L : List Ln} (h : w.ownsRow base 42 3 v L.length (flat L)) : ∃ ao b cp, v = .slice ao L.length cp ∧ Lies w b ao L := by
  rcases h.2 with ⟨h1, h2⟩ | ⟨g, cap, cur, rfl, _, h3, _, _, _, h7⟩
  · have : L = [] := List.eq_nil_of_length_eq_zero h2
    subst this
    exact ⟨none, 0, 0, h1, fun h => by simp at h, fun i h => by simp at h, fun i h => by simp at h, fun i h => by simp at h⟩
  · refine ⟨_, g, cap, rfl, fun _ => rfl, fun i hi => ?_, fun i hi => ?_, fun i hi => ?_⟩
    · rw [h.cellAt (i * 3) (by omega), flat_0 L i hi]
    · rw [h.cellAt (i * 3 + 1) (by omega), flat_1 L i hi]
    · rw [h.cellAt (i * 3 + 2) (by omega), flat_2 L i hi]
theorem cell_three_new (W : World) (a b c : Value) (t : TypeId) : ∀ (j : Nat) (u : Value), [a, b, c][j]? = some u → (W.alloc (.cells #[a, b, c] t)).cell? ((⟨W.heap.size, 0, none⟩ : Addr).add j) = some u := by
  intro j u hj
  have e : ((⟨W.heap.size, 0, none⟩ : Addr).add j) = ⟨W.heap.size, j, none⟩ := by
    unfold Addr.add; split
    · rename_i h; rw [h]
    · simp
  rw [e, cell_of_row _ _ j _ _ _ (heap_alloc_new _ _)]
  simp only [List.getElem?_toArray]; exact hj

theorem own_base {w : World} {base e size n k : Nat} {v : Value} {xs : List Value} (h : w.ownsRow base e size v n xs) (hk : v.ownBlock = some k) : base ≤ k := by
  rcases h.2 with ⟨rfl, _⟩ | ⟨g, cap, cur, rfl, a2, _⟩
  · simp [Value.ownBlock] at hk
  · simp [Value.ownBlock] at hk; omega

def ModPost (ls : List Ln) (sec : ByteArray) (ao : Option Addr) (n cap : Nat) (w : World) (e : Ending) (w' : World) : Prop :=
  ((∃ r ∈ runsOf ls sec, badRun ls r) ∧ e = .returned (.tuple #[.slice ao n cap, .bool false, .bool true]) ∧ Below w.heap.size w w') ∨
  ((∀ r ∈ runsOf ls sec, ¬ badRun ls r) ∧ ∃ ao' b' cp', e = .returned (.tuple #[.slice ao' (rem ls 0 (runsOf ls sec)).length cp', .bool (decide (0 < (runsOf ls sec).length)), .bool false]) ∧ Lies w' b' ao' (rem ls 0 (runsOf ls sec)) ∧ Below w.heap.size w w')

set_option maxHeartbeats 2500000 in
set_option maxRecDepth 100000 in
theorem model_any (ao : Option Addr) (b n cap : Nat) (ls : List Ln) (sec : ByteArray) (w : World) (hl : ls.length = n) (hn : n ≤ 1048576) (hL : Lies w b ao ls) (hbl : 0 < n → b < w.heap.size) (hs : 0 < sec.size) (hso : Sound ls) (ht : ∀ i, i < ls.length → (at' ls i).t.size ≤ 1048576) :
    Calls Tryf.prog 10 #[.slice ao n cap, .string sec] w fun e w' => ModPost ls sec ao n cap w e w' := by
  have he := emp_no hs
  obtain ⟨i0, hi, hz0, hz1, hz2⟩ := info_parts Tryf.info4
  have HL := hide hL
  have HSO := hide hso
  have HT := hide ht
  clear hL hso ht
  go_enter Tryf.func10, Tryf.ntmps10
  go_wp2_with (at_make; refine wpList_make_full _ rfl _ _ _ rfl w.heap.size 4 i0 (.bool false) 1 Tryf.underlying61 hi hz0 hz1 _ _ _ _ n rfl rfl (by omega) (by omega) (by rw [hz2]; omega) (by unfold maxLen; omega) (Nat.le_refl _) ?_; intro w1 hown hgrow)
  rw [show (Value.bool false).cells = #[.bool false] from rfl, Nat.mul_one, toList_madeCells_one, gl_zero n (gB ls sec)] at hown
  have HO1 := hide hown
  have HB1 : Hid (Below w.heap.size w w1) := (Below.refl _ _).grown hgrow (Nat.le_refl _) (fun k h => by cases h)
  clear hown hgrow hi hz0 hz1 hz2
  go_wp2
  go_loopw [9, 10, 11] (fun tc to ti wr => ∃ i : Nat, i ≤ n ∧ tc = .string (mst ls i).1 ∧ to = .bool (mst ls i).2 ∧ ti = .int .i64 i ∧ Hid (wr.ownsRow w.heap.size 4 1 (.slice (some ⟨w.heap.size, 0, none⟩) n n) n (gl n (gB ls sec) i)) ∧ Hid (Below w.heap.size w wr)) (fun _ _ ti _ => n - (intOf ti).toNat)
  case atStart => exact ⟨0, Nat.zero_le _, rfl, rfl, rfl, HO1, HB1⟩
  case round =>
    obtain ⟨i, hin, rfl, rfl, rfl, HO, HB⟩ := hrel
    by_cases hlt : i < n
    · obtain rfl := HL.out.ao (by omega)
      have hbb := hbl (by omega)
      have u0 := (HB.out.cell (p := ⟨b, i * 3, none⟩) hbb).trans (HL.out.c0 i (by omega))
      have u1 := (HB.out.cell (p := ⟨b, i * 3 + 1, none⟩) hbb).trans (HL.out.c1 i (by omega))
      have d0 := HO.out.cellAt i (by omega)
      rw [gl_at _ _ hlt] at d0
      have f0 := HO.out.frozenAt i
      have tt := HT.out i (by omega)
      have hsd := HSO.out i (by omega)
      have hmh := mst_head (ls := ls) (i := i)
      have hmb := mst_bad (ls := ls) (i := i)
      have hmo := mst_on (ls := ls) (i := i)
      have hgd : gB ls sec i = ((mst ls (i + 1)).2 && decide ((mst ls (i + 1)).1 = sec)) := rfl
      have hi1 : (i : Int) < (n : Int) := by omega
      have hi0 : (0 : Int) ≤ (i : Int) := by omega
      obtain ⟨⟨t, k, e⟩, hli⟩ : ∃ l, at' ls i = l := ⟨_, rfl⟩
      rw [hli] at u0 u1 tt hsd hmh hmb hmo
      simp only at u0 u1 tt hsd hmh hmb hmo
      by_cases hk : k = 2
      · subst hk
        have HC := hide (fun w => zz_name t w (by unfold maxLen; omega) (hsd rfl))
        have hm1 := hmh rfl
        rw [hm1] at hgd
        have HM1 := hide hm1
        clear hmh hmb hmo hm1 hsd hli
        by_cases hnm : nameOf t = sec
        · have hgv : gB ls sec i = true := by rw [hgd]; simp [hnm]
          rw [hnm] at HC HM1
          have hst := HO.out.stored i (.bool true)
          have hset := gl_set (gB ls sec) hlt
          rw [hgv] at hset
          rw [hset] at hst
          have HST := hide hst.1
          clear hst hset
          clear hgd hgv HO
          go_wp2_with (go_at_call 13; refine (HC.out _).mono ?_; rintro e w' ⟨rfl, hw⟩; have hw' := hw.symm; subst hw')
          go_roundw
          case rel => exact ⟨i + 1, by omega, by rw [HM1.out], by rw [HM1.out], by go_num, HST, HB.out.setCell (by exact Nat.le_refl _) _⟩
          case measure => simp [intOf]; omega
        · have tn := str_nq hnm
          have hgv : gB ls sec i = false := by rw [hgd]; simp [hnm]
          have hst := HO.out.stored i (.bool false)
          have hset := gl_set (gB ls sec) hlt
          rw [hgv] at hset
          rw [hset] at hst
          have HST := hide hst.1
          clear hst hset
          clear hgd hgv HO
          go_wp2_with (go_at_call 13; refine (HC.out _).mono ?_; rintro e w' ⟨rfl, hw⟩; have hw' := hw.symm; subst hw')
          go_roundw
          case rel => exact ⟨i + 1, by omega, by rw [HM1.out], by rw [HM1.out], by go_num, HST, HB.out.setCell (by exact Nat.le_refl _) _⟩
          case measure => simp [intOf]; omega
      · have k2 : (k == 2) = false := by simpa using hk
        by_cases hk5 : k = 5
        · subst hk5
          have hm1 := hmb rfl
          rw [hm1] at hgd
          have HM1 := hide hm1
          have hgv : gB ls sec i = false := by rw [hgd]; rfl
          have hst := HO.out.stored i (.bool false)
          have hset := gl_set (gB ls sec) hlt
          rw [hgv] at hset
          rw [hset] at hst
          have HST := hide hst.1
          clear hst hset
          clear hgd hgv HO hmh hmb hmo hm1 hsd hli
          go_wp2
          go_roundw
          case rel => exact ⟨i + 1, by omega, by rw [HM1.out], by rw [HM1.out], by go_num, HST, HB.out.setCell (by exact Nat.le_refl _) _⟩
          case measure => simp [intOf]; omega
        · have k5 : (k == 5) = false := by simpa using hk5
          have hm1 := hmo hk hk5
          rw [hm1] at hgd
          have HM1 := hide hm1
          clear hmh hmb hmo hm1 hsd hli
          obtain ⟨⟨cu, op⟩, hcu⟩ : ∃ x, mst ls i = x := ⟨_, rfl⟩
          rw [hcu] at hgd HM1
          rw [hcu]
          clear hcu
          simp only at hgd
          rcases op with _ | _
          · have hgv : gB ls sec i = false := by rw [hgd]; rfl
            have hst := HO.out.stored i (.bool false)
            have hset := gl_set (gB ls sec) hlt
            rw [hgv] at hset
            rw [hset] at hst
            have HST := hide hst.1
            clear hst hset
            clear hgd hgv HO
            go_wp2
            go_roundw
            case rel => exact ⟨i + 1, by omega, by rw [HM1.out], by rw [HM1.out], by go_num, HST, HB.out.setCell (by exact Nat.le_refl _) _⟩
            case measure => simp [intOf]; omega
          · by_cases hnm : cu = sec
            · subst hnm
              have hgv : gB ls cu i = true := by rw [hgd]; simp
              have hst := HO.out.stored i (.bool true)
              have hset := gl_set (gB ls cu) hlt
              rw [hgv] at hset
              rw [hset] at hst
              have HST := hide hst.1
              clear hst hset
              clear hgd hgv HO
              go_wp2
              go_roundw
              case rel => exact ⟨i + 1, by omega, by rw [HM1.out], by rw [HM1.out], by go_num, HST, HB.out.setCell (by exact Nat.le_refl _) _⟩
              case measure => simp [intOf]; omega
            · have tn := str_nq hnm
              have hgv : gB ls sec i = false := by rw [hgd]; simp [hnm]
              have hst := HO.out.stored i (.bool false)
              have hset := gl_set (gB ls sec) hlt
              rw [hgv] at hset
              rw [hset] at hst
              have HST := hide hst.1
              clear hst hset
              clear hgd hgv HO
              go_wp2
              go_roundw
              case rel => exact ⟨i + 1, by omega, by rw [HM1.out], by rw [HM1.out], by go_num, HST, HB.out.setCell (by exact Nat.le_refl _) _⟩
              case measure => simp [intOf]; omega
    · obtain rfl : n = i := by omega
      have HG : Hid (∀ j, j < n → wr.cell? ⟨w.heap.size, j, none⟩ = some (.bool (gB ls sec j))) := fun j hj => by
        rw [HO.out.cellAt j (by omega), gl_at _ _ hj, if_pos hj]
      clear HO HO1 HB1
      obtain ⟨w2, hw2⟩ : ∃ w2, w2 = wr := ⟨_, rfl⟩
      subst hw2
      have hse : sec ≠ ByteArray.empty := fun e => by rw [e] at hs; exact absurd hs (by decide)
      obtain ⟨hR1, hR2⟩ := runsOf_spec ls sec hse
      rw [hl] at hR1 hR2
      have HRS := hide hR1
      have HGR : Hid (∀ j, j < n → (gB ls sec j = true ↔ inR (runsOf ls sec) j)) := fun j hj => (gB_iff ls sec j).trans (hR2 j hj)
      clear hR1 hR2
      obtain ⟨R, hRe⟩ : ∃ R, runsOf ls sec = R := ⟨_, rfl⟩
      rw [hRe] at HRS HGR
      obtain ⟨G, hGe⟩ : ∃ G, gB ls sec = G := ⟨_, rfl⟩
      rw [hGe] at HG HGR
      have HRE := hide hRe
      have HGE := hide hGe
      clear hRe hGe
      go_wp2
      go_loopw [13, 14] (fun tf ti wr => ∃ i : Nat, i ≤ n ∧ tf = .bool (fB G i) ∧ ti = .int .i64 i ∧ Hid (∀ r ∈ R, r.1 < i → ¬ badRun ls r) ∧ Hid (i = 0 ∨ i = n ∨ G (i - 1) = false ∨ G i = false) ∧ Hid (∃ m, wr = w2.drewN m)) (fun _ ti _ => n - (intOf ti).toNat)
      case atStart => exact ⟨0, Nat.zero_le _, rfl, rfl, fun r _ h => absurd h (Nat.not_lt_zero _), .inl rfl, ⟨0, rfl⟩⟩
      case round =>
        obtain ⟨i, hin, rfl, rfl, HNB, HST, HW⟩ := hrel
        have hcl : Hid (∀ p, wr.cell? p = w2.cell? p) := fun p => by obtain ⟨m, rfl⟩ := HW.out; rfl
        by_cases hlt : i < n
        · have c0 := (hcl.out _).trans (HG.out i hlt)
          have hi1 : (i : Int) < (n : Int) := by omega
          have hi0 : (0 : Int) ≤ (i : Int) := by omega
          rcases Bool.eq_false_or_eq_true (G i) with hgi | hgi
          · rw [hgi] at c0
            have hf1 : fB G (i + 1) = true := fB_true (by omega) hgi
            have HGI := hide hgi
            have HF1 := hide hf1
            clear hgi hf1
            go_wp2
            go_loop [14] (fun tj => ∃ j : Nat, i ≤ j ∧ j ≤ n ∧ tj = .int .i64 j ∧ Hid (∀ x, i ≤ x → x < j → G x = true)) (fun tj => n - (intOf tj).toNat)
            case atStart => exact ⟨i, Nat.le_refl _, hin, rfl, fun x h1 h2 => absurd h2 (by omega)⟩
            case round =>
              obtain ⟨j, hij, hjn, rfl, HX⟩ := hrel
              by_cases hjl : j < n ∧ G j = true
              · obtain ⟨hj1, hj2⟩ := hjl
                have c1 := (hcl.out _).trans (HG.out j hj1)
                rw [hj2] at c1
                have hj3 : (j : Int) < (n : Int) := by omega
                have hj4 : (0 : Int) ≤ (j : Int) := by omega
                have HX2 : Hid (∀ x, i ≤ x → x < j + 1 → G x = true) := fun x h1 h2 => by
                  by_cases h : x < j
                  · exact HX.out x h1 h
                  · obtain rfl : x = j := by omega
                    exact hj2
                clear hj2
                go_wp2
                go_round
                case rel => exact ⟨j + 1, by omega, by omega, by go_num, HX2⟩
                case measure => simp [intOf]; omega
              · have hij2 : i < j := by
                  by_cases h : i < j
                  · exact h
                  · exfalso
                    obtain rfl : i = j := by omega
                    exact hjl ⟨hlt, HGI.out⟩
                have hjend : j = n ∨ (j < n ∧ G j = false) := by
                  by_cases h : j = n
                  · exact .inl h
                  · right
                    refine ⟨by omega, ?_⟩
                    rcases Bool.eq_false_or_eq_true (G j) with e | e
                    · exact absurd ⟨by omega, e⟩ hjl
                    · exact e
                have hrun : (i, j) ∈ R := by
                  refine run_mem HRS.out HGR.out hij2 hjn HX.out ?_ (hjend.elim .inl (fun h => .inr h.2))
                  rcases HST.out with h | h | h | h
                  · exact .inl h
                  · omega
                  · exact .inr h
                  · rw [HGI.out] at h; cases h
                have HRUN := hide hrun
                have HLw : Hid (Lies wr b ao ls) := by
                  have hbb := hbl (by omega)
                  exact ⟨HL.out.ao, fun x hx => (hcl.out _).trans ((HB.out.cell (p := ⟨b, x * 3, none⟩) hbb).trans (HL.out.c0 x hx)), fun x hx => (hcl.out _).trans ((HB.out.cell (p := ⟨b, x * 3 + 1, none⟩) hbb).trans (HL.out.c1 x hx)), fun x hx => (hcl.out _).trans ((HB.out.cell (p := ⟨b, x * 3 + 2, none⟩) hbb).trans (HL.out.c2 x hx))⟩
                have HE := hide (zzEnt_any b n cap i ao ls wr hl hn hin HLw.out)
                have HSJ : Hid (j = 0 ∨ j = n ∨ G (j - 1) = false ∨ G j = false) := hjend.elim (fun h => .inr (.inl h)) (fun h => .inr (.inr (.inr h.2)))
                have hel := entB_lt ls i
                obtain ⟨E, hE0⟩ : ∃ E, entB ls i = E := ⟨_, rfl⟩
                rw [hE0] at HE hel
                have HE0 := hide hE0
                clear hE0 hrun hjl
                have HFJ : Hid (fB G j = true) := fB_true hij2 HGI.out
                rcases hjend with hje | ⟨hj1, hj2⟩
                · have hjd : decide ((j : Int) < (n : Int)) = false := decide_eq_false (by omega)
                  have hjd' : decide (j < n) = false := decide_eq_false (by omega)
                  have HNB2 : Hid (∀ r ∈ R, r.1 < j → ¬ badRun ls r) := fun r hr h => by
                    by_cases h2 : r.1 < i
                    · exact HNB.out r hr h2
                    · have e := run_same HRS.out hr HRUN.out (j := r.1) (Nat.le_refl _) (HRS.out.1 r hr).1 (by exact Nat.le_of_not_lt h2) (by exact h)
                      rw [e]; exact fun hb => by have := hb.2.1; simp only at this; omega
                  by_cases hE : 0 ≤ E
                  · have hEd : decide ((0 : Int) ≤ E) = true := decide_eq_true hE
                    go_wp2_with (go_at_call 22; refine HE.out.mono ?_; rintro e w' ⟨rfl, hw⟩; have hw' := hw.symm; subst hw')
                    go_quiet (fail)
                    go_wp2
                    go_roundw
                    case rel => exact ⟨j, hjn, by rw [HFJ.out], by go_num, HNB2, HSJ, by obtain ⟨m, rfl⟩ := HW.out; exact ⟨m + nq, by rw [World.drewN_drewN]⟩⟩
                    case measure => simp [intOf]; omega
                  · have hEd : decide ((0 : Int) ≤ E) = false := decide_eq_false hE
                    go_wp2_with (go_at_call 22; refine HE.out.mono ?_; rintro e w' ⟨rfl, hw⟩; have hw' := hw.symm; subst hw')
                    go_quiet (fail)
                    go_wp2
                    go_roundw
                    case rel => exact ⟨j, hjn, by rw [HFJ.out], by go_num, HNB2, HSJ, by obtain ⟨m, rfl⟩ := HW.out; exact ⟨m + nq, by rw [World.drewN_drewN]⟩⟩
                    case measure => simp [intOf]; omega
                · have c1 := (hcl.out _).trans (HG.out j hj1)
                  rw [hj2] at c1
                  have hj3 : (j : Int) < (n : Int) := by omega
                  have hj4 : (0 : Int) ≤ (j : Int) := by omega
                  clear hj2
                  by_cases hE : 0 ≤ E
                  · obtain ⟨q, rfl⟩ : ∃ q : Nat, E = q := ⟨E.toNat, by omega⟩
                    have hq1 : (q : Int) < (n : Int) := by omega
                    have hq0 : (0 : Int) ≤ (q : Int) := by omega
                    obtain rfl := HLw.out.ao (by omega)
                    have u0 := HLw.out.c0 j (by omega)
                    have v0 := HLw.out.c0 q (by omega)
                    have tj := HT.out j (by omega)
                    have tq := HT.out q (by omega)
                    obtain ⟨jt, hjt⟩ : ∃ t, (at' ls j).t = t := ⟨_, rfl⟩
                    obtain ⟨qt, hqt⟩ : ∃ t, (at' ls q).t = t := ⟨_, rfl⟩
                    rw [hjt] at u0 tj
                    rw [hqt] at v0 tq
                    have I1 := hide (fun w => zz_indent jt w (by unfold maxLen; omega))
                    have I2 := hide (fun w => zz_indent qt w (by unfold maxLen; omega))
                    have HJT := hide hjt
                    have HQT := hide hqt
                    clear hjt hqt
                    by_cases hI : ind qt < ind jt
                    · have hId : decide ((ind qt : Int) < (ind jt : Int)) = true := decide_eq_true (by omega)
                      have hId' : decide (ind qt < ind jt) = true := decide_eq_true hI
                      have HBAD : Hid (badRun ls (i, j)) := ⟨by simp only [HE0.out]; omega, by simp only; omega, by simp only [HE0.out, Int.toNat_natCast, HJT.out, HQT.out]; exact hI⟩
                      go_wp2_with (go_at_call 22; refine HE.out.mono ?_; rintro e w' ⟨rfl, hw⟩; have hw' := hw.symm; subst hw')
                      go_quiet (first | (go_at_call_of 15 (Value.string jt); exact Calls.quiet_of_same (I1.out _)) | (go_at_call_of 15 (Value.string qt); exact Calls.quiet_of_same (I2.out _)))
                      go_wp2
                      refine bodyPost_ret (results_tmp3 rfl _ _ _) rfl ?_
                      exact .inl ⟨⟨_, by rw [HRE.out]; exact HRUN.out, HBAD.out⟩, rfl, by obtain ⟨m, rfl⟩ := HW.out; exact ⟨HB.out.os, HB.out.tape, HB.out.output, HB.out.size, HB.out.block⟩⟩
                    · have hId : decide ((ind qt : Int) < (ind jt : Int)) = false := decide_eq_false (by omega)
                      have hId' : decide (ind qt < ind jt) = false := decide_eq_false hI
                      have HNB2 : Hid (∀ r ∈ R, r.1 < j → ¬ badRun ls r) := fun r hr h => by
                        by_cases h2 : r.1 < i
                        · exact HNB.out r hr h2
                        · have e := run_same HRS.out hr HRUN.out (j := r.1) (Nat.le_refl _) (HRS.out.1 r hr).1 (by exact Nat.le_of_not_lt h2) (by exact h)
                          rw [e]; exact fun hb => by have := hb.2.2; simp only [HE0.out, Int.toNat_natCast, HJT.out, HQT.out] at this; exact hI this
                      go_wp2_with (go_at_call 22; refine HE.out.mono ?_; rintro e w' ⟨rfl, hw⟩; have hw' := hw.symm; subst hw')
                      go_quiet (first | (go_at_call_of 15 (Value.string jt); exact Calls.quiet_of_same (I1.out _)) | (go_at_call_of 15 (Value.string qt); exact Calls.quiet_of_same (I2.out _)))
                      go_wp2
                      go_roundw
                      case rel => exact ⟨j, hjn, by rw [HFJ.out], by go_num, HNB2, HSJ, by obtain ⟨m, rfl⟩ := HW.out; exact ⟨m + nq, by rw [World.drewN_drewN]⟩⟩
                      case measure => simp [intOf]; omega
                  · have hEd : decide ((0 : Int) ≤ E) = false := decide_eq_false hE
                    have HNB2 : Hid (∀ r ∈ R, r.1 < j → ¬ badRun ls r) := fun r hr h => by
                      by_cases h2 : r.1 < i
                      · exact HNB.out r hr h2
                      · have e := run_same HRS.out hr HRUN.out (j := r.1) (Nat.le_refl _) (HRS.out.1 r hr).1 (by exact Nat.le_of_not_lt h2) (by exact h)
                        rw [e]; exact fun hb => by have := hb.1; simp only [HE0.out] at this; omega
                    go_wp2_with (go_at_call 22; refine HE.out.mono ?_; rintro e w' ⟨rfl, hw⟩; have hw' := hw.symm; subst hw')
                    go_quiet (fail)
                    go_wp2
                    go_roundw
                    case rel => exact ⟨j, hjn, by rw [HFJ.out], by go_num, HNB2, HSJ, by obtain ⟨m, rfl⟩ := HW.out; exact ⟨m + nq, by rw [World.drewN_drewN]⟩⟩
                    case measure => simp [intOf]; omega
          · rw [hgi] at c0
            have HF1 : Hid (fB G (i + 1) = fB G i) := by rw [Hid, fB, hgi, Bool.or_false]
            have HGI := hide hgi
            clear hgi
            have HNB2 : Hid (∀ r ∈ R, r.1 < i + 1 → ¬ badRun ls r) := fun r hr h => by
              by_cases h2 : r.1 < i
              · exact HNB.out r hr h2
              · exfalso
                have := (HGR.out i hlt).2 ⟨r, hr, by omega, by have := (HRS.out.1 r hr).1; omega⟩
                rw [HGI.out] at this; cases this
            go_wp2
            go_roundw
            case rel => exact ⟨i + 1, by omega, by rw [HF1.out], by go_num, HNB2, .inr (.inr (.inl (by exact HGI.out))), HW⟩
            case measure => simp [intOf]; omega
        · obtain rfl : n = i := by omega
          have HALL : Hid (∀ r ∈ R, ¬ badRun ls r) := fun r hr => HNB.out r hr (by have := HRS.out.1 r hr; omega)
          have HB3 : Hid (Below w.heap.size w wr) := by obtain ⟨m, rfl⟩ := HW.out; exact ⟨HB.out.os, HB.out.tape, HB.out.output, HB.out.size, HB.out.block⟩
          have HFN : Hid (fB G n = decide (0 < R.length)) := by
            rw [Hid]
            have h1 := fB_iff G n
            rcases Bool.eq_false_or_eq_true (fB G n) with h | h
            · rw [h]
              obtain ⟨j, hj, hg⟩ := h1.1 h
              obtain ⟨r, hr, _⟩ := (HGR.out j hj).1 hg
              exact (decide_eq_true (List.length_pos_of_mem hr)).symm
            · rw [h]
              refine (decide_eq_false (fun hp => ?_)).symm
              obtain ⟨r, hr⟩ := List.exists_mem_of_length_pos hp
              have hrr := HRS.out.1 r hr
              have := h1.2 ⟨r.1, by omega, (HGR.out r.1 (by omega)).2 ⟨r, hr, Nat.le_refl _, hrr.1⟩⟩
              rw [h] at this; cases this
          have HKR : Hid (kept ls G 0 n = rem ls 0 R) := by
            have := rem_kept (ls := ls) (g := G) (lo := 0) (R := R) (by rw [hl]; exact RS.rok HRS.out 0 (Nat.zero_le _) (fun _ _ => Nat.zero_le _)) (fun j _ hj => HGR.out j (by omega))
            rw [hl, Nat.sub_zero] at this
            exact this.symm
          have HLw : Hid (Lies wr b ao ls) := ⟨HL.out.ao, fun x hx => (hcl.out _).trans ((HB.out.cell (p := ⟨b, x * 3, none⟩) (hbl (by omega))).trans (HL.out.c0 x hx)), fun x hx => (hcl.out _).trans ((HB.out.cell (p := ⟨b, x * 3 + 1, none⟩) (hbl (by omega))).trans (HL.out.c1 x hx)), fun x hx => (hcl.out _).trans ((HB.out.cell (p := ⟨b, x * 3 + 2, none⟩) (hbl (by omega))).trans (HL.out.c2 x hx))⟩
          have HGw : Hid (∀ j, j < n → wr.cell? ⟨w.heap.size, j, none⟩ = some (.bool (G j))) := fun j hj => (hcl.out _).trans (HG.out j hj)
          obtain ⟨w3, hw3⟩ : ∃ w3, w3 = wr := ⟨_, rfl⟩
          subst hw3
          obtain ⟨iL, gi, gz0, gz1, gz2⟩ := info_parts Tryf.info42'
          have hgb3 : 0 < n → w.heap.size < w3.heap.size := fun h => by
            have := block_lt_of_cell (HGw.out 0 h)
            exact this
          rw [HFN.out]
          clear HG HL HW hcl HST HNB HGE HFN
          go_wp2
          go_loopw [17, 18] (fun tw tj wr => ∃ j : Nat, j ≤ n ∧ tj = .int .i64 j ∧ Hid (wr.ownsRow w3.heap.size 42 3 tw (kept ls G 0 j).length (flat (kept ls G 0 j))) ∧ Hid (Below w3.heap.size w3 wr)) (fun _ tj _ => n - (intOf tj).toNat)
          case atStart => exact ⟨0, Nat.zero_le _, rfl, World.ownsRow_nil _ _ _ _, Below.refl _ _⟩
          case round =>
            rename_i uw uj
            obtain ⟨j, hjn, hjv, HOw, HBw⟩ := hrel
            subst hjv
            by_cases hlt2 : j < n
            · obtain rfl := HLw.out.ao (by omega)
              have hbb : b < w3.heap.size := by have := hbl (by omega); have := HB3.out.size; omega
              have hgg := hgb3 (by omega)
              have c0 := (HBw.out.cell (p := ⟨w.heap.size, j, none⟩) hgg).trans (HGw.out j hlt2)
              have u0 := (HBw.out.cell (p := ⟨b, j * 3, none⟩) hbb).trans (HLw.out.c0 j (by omega))
              have u1 := (HBw.out.cell (p := ⟨b, j * 3 + 1, none⟩) hbb).trans (HLw.out.c1 j (by omega))
              have u2 := (HBw.out.cell (p := ⟨b, j * 3 + 2, none⟩) hbb).trans (HLw.out.c2 j (by omega))
              have hks := kept_snoc ls G j
              have hkl := kept_len ls G j 0
              have hj3 : (j : Int) < (n : Int) := by omega
              have hj4 : (0 : Int) ≤ (j : Int) := by omega
              obtain ⟨⟨t, k, e⟩, hli⟩ : ∃ l, at' ls j = l := ⟨_, rfl⟩
              rw [hli] at u0 u1 u2 hks
              simp only at u0 u1 u2
              obtain ⟨kk, hkk⟩ : ∃ kk, kept ls G 0 j = kk := ⟨_, rfl⟩
              rw [hkk] at hks hkl HOw
              rcases Bool.eq_false_or_eq_true (G j) with hg | hg
              · rw [hg] at c0 hks
                have HKS : Hid (kept ls G 0 (j + 1) = kk) := by rw [Hid, hks]; simp
                clear hks hg hli hkk
                go_wp2
                go_roundw
                case rel => exact ⟨j + 1, by omega, by go_num, by rw [HKS.out]; exact HOw, HBw⟩
                case measure => simp [intOf]; omega
              · rw [hg] at c0 hks
                have HKS : Hid (kept ls G 0 (j + 1) = kk ++ [⟨t, k, e⟩]) := by rw [Hid, hks]; simp
                have hsb := HBw.out.size
                clear hks hg hli hkk
                go_wp2_with (at_builtin; refine wpList_append_own _ rfl _ _ 27 rfl w3.heap.size 42 iL (.agg #[.string ⟨#[]⟩, .int .u8 0, .int .u8 0]) 3 24 Tryf.underlying27 gi gz0 gz1 gz2 rfl (by decide) _ kk.length (flat kk) rfl (HOw.out.alloc _) ⟨wr.heap.size, 0, none⟩ 1 1 [.string t, .int .u8 k, .int .u8 e] rfl rfl (cell_three_new wr _ _ _ _) (by simp [Value.oneCell']) (by unfold maxLen; omega) (by omega) (by simp; omega) ?_; intro v' W1 hown' hgrow' hnil')
                go_roundw
                case rel => exact ⟨j + 1, by omega, by go_num, by rw [HKS.out, List.length_append, flat_append]; exact hown', (HBw.out.alloc hsb _).grown hgrow' (by simp; omega) (fun k hk => own_base HOw.out hk)⟩
                case measure => simp [intOf]; omega
            · obtain rfl : n = j := by omega
              have hfin := HOw.out
              rw [HKR.out] at hfin
              obtain ⟨ao', b', cp', hv, hli⟩ := lies_of_own hfin
              have HFV := hide hv
              have HFL := hide hli
              clear hv hli hfin
              go_wp2
              refine bodyPost_ret (results_tmp3 rfl _ _ _) rfl ?_
              refine .inr ⟨by rw [HRE.out]; exact HALL.out, ao', b', cp', ?_, by rw [HRE.out]; exact HFL.out, HB3.out.trans (HBw.out.mono HB3.out.size)⟩
              rw [HRE.out, ← HFV.out]
              rfl
#print axioms model_any
end Go.Proofs.Qxb6603539aFmt.Ds

import Derived.Test.Qxb6603539aFmtProg
import Derived.WalkKit
import Derived.WalkSpells
import Derived.Deep.RegionLaw
import Derived.Test.Qxb6603539aFmtRuns
namespace Go.Proofs.Qxb6603539aFmt.Ds
open Go.RowKit

/-- But for the blocks of S, what lay in w lies in w'. -/
structure Oth (S : Nat → Prop) (w w' : World) : Prop where
  os : w'.os = w.os
  tape : w'.tape = w.tape
  output : w'.output = w.output
  size : w.heap.size ≤ w'.heap.size
  block : ∀ k, k < w.heap.size → ¬ S k → w'.heap[k]? = w.heap[k]?
section
variable {S : Nat → Prop} {w w' w2 : World}
theorem Oth.refl (S : Nat → Prop) (w : World) : Oth S w w := ⟨rfl, rfl, rfl, Nat.le_refl _, fun _ _ _ => rfl⟩
theorem Oth.trans (h : Oth S w w') (h2 : Oth S w' w2) : Oth S w w2 := ⟨h2.os.trans h.os, h2.tape.trans h.tape, h2.output.trans h.output, Nat.le_trans h.size h2.size, fun k hk hs => (h2.block k (by have := h.size; omega) hs).trans (h.block k hk hs)⟩
theorem Oth.alloc (h : Oth S w w') (o : Obj) : Oth S w (w'.alloc o) := h.trans ⟨rfl, rfl, rfl, by simp, fun _ hk _ => Below.heap_alloc _ _ _ hk⟩
theorem Oth.drew (h : Oth S w w') : Oth S w w'.drew := h.trans ⟨rfl, rfl, rfl, Nat.le_refl _, fun _ _ _ => rfl⟩
theorem Oth.grown (h : Oth S w w') {r : Nat} (hg : w'.grownBy w2 (some r)) (hr : S r) : Oth S w w2 := h.trans ⟨hg.os, hg.tape, hg.output, hg.size, fun k hk hs => hg.block k hk (fun e => hs (by cases e; exact hr))⟩
theorem Oth.setCell (h : Oth S w w') {r : Nat} (hr : S r) (j : Nat) (v : Value) : Oth S w (w'.setCell ⟨r, j, none⟩ v) := h.trans ⟨rfl, rfl, rfl, by simp, fun k _ hs => Below.heap_setCell _ _ _ _ (fun e => hs (by subst e; exact hr))⟩
theorem Oth.some (h : Oth S w w') {k : Nat} {o : Obj} (hk : w.heap[k]? = .some o) (hs : ¬ S k) : w'.heap[k]? = .some o := (h.block k (Array.getElem?_eq_some_iff.1 hk).1 hs).trans hk
theorem Oth.cell (h : Oth S w w') {k j : Nat} {v : Value} (hk : w.cell? ⟨k, j, none⟩ = .some v) (hs : ¬ S k) : w'.cell? ⟨k, j, none⟩ = .some v :=
  (World.cell?_of_block (w := w) (h.block k (block_lt_of_cell hk) hs)).trans hk
theorem Oth.weaken (h : Oth S w w') {S' : Nat → Prop} (hs : ∀ k, S k → S' k) : Oth S' w w' := ⟨h.os, h.tape, h.output, h.size, fun k hk hn => h.block k hk (fun x => hn (hs k x))⟩
theorem Oth.below (h : Oth S w w') {B : Nat} (hs : ∀ k, S k → B ≤ k) (hB : B ≤ w.heap.size) : Below B w w' := ⟨h.os, h.tape, h.output, h.size, fun k hk => h.block k (by omega) (fun x => by have := hs k x; omega)⟩
end

theorem Tryf.info42 : (Tryf.prog.info? 42).map (·.size) = some 3 := by kernel_rfl

theorem grown_cell {w w' : World} {b k j : Nat} {v : Value} (h : w.grownBy w' (some b)) (hc : w.cell? ⟨k, j, none⟩ = some v) (hk : k ≠ b) : w'.cell? ⟨k, j, none⟩ = some v :=
  (World.cell?_of_block (w := w) (h.block k (block_lt_of_cell hc) (fun e => hk (by cases e; rfl)))).trans hc
theorem copy_holds {w w' : World} {b off : Nat} {L cs : List Ln} (h1 : 0 < cs.length → Holds w' b (spl L off cs)) (h2 : cs.length = 0 → w' = w) (h : Holds w b L) : Holds w' b (spl L off cs) := by
  by_cases h0 : cs.length = 0
  · have := List.eq_nil_of_length_eq_zero h0
    subst this
    rw [h2 rfl, spl_nil]; exact h
  · exact h1 (by omega)

theorem rem_done {w w4 : World} {m b n cap : Nat} {bom : Bool} {L2 K cs M : List Ln} (hm : w4.heap[m]? = some (.cells #[.bool bom, .slice (some ⟨b, 0, none⟩) n cap] 30 (0, 0))) (hH : Holds w4 b L2) (hO : Oth (fun k => k = b) w w4) (hF : K ++ cs = M) (hF2 : L2.take (K.length + cs.length) = K ++ cs ∧ L2.length = cap) (hmb : m ≠ b) {x : Nat} (hx : x = K.length + cs.length) :
    ∃ L', (w4.setCell ⟨m, 1, none⟩ (.slice (some ⟨b, 0, none⟩) x cap)).heap[m]? = some (.cells #[.bool bom, .slice (some ⟨b, 0, none⟩) M.length cap] 30 (0, 0)) ∧ Holds (w4.setCell ⟨m, 1, none⟩ (.slice (some ⟨b, 0, none⟩) x cap)) b L' ∧ L'.length = cap ∧ L'.take M.length = M ∧ Oth (fun k => k = m ∨ k = b) w (w4.setCell ⟨m, 1, none⟩ (.slice (some ⟨b, 0, none⟩) x cap)) := by
  have hxn : x = M.length := by rw [← hF, List.length_append]; omega
  have hM : M.length = K.length + cs.length := by rw [← hF, List.length_append]
  rw [hxn]
  refine ⟨L2, ?_, ?_, hF2.2, ?_, ?_⟩
  · have := heap_setCell_same w4 m 1 _ _ (.slice (some ⟨b, 0, none⟩) M.length cap) hm; exact this
  · exact (Below.heap_setCell _ _ _ _ (fun e => hmb e.symm)).trans hH
  · rw [hM, hF2.1, hF]
  · exact (hO.weaken (fun k h => .inr h)).setCell (.inl rfl) _ _

set_option maxHeartbeats 8000000 in
set_option maxRecDepth 100000 in
theorem remove_some (m b n cap g rcap : Nat) (rp : Option Addr) (bom : Bool) (L : List Ln) (R : List (Nat × Nat)) (w : World) (hm : w.heap[m]? = some (.cells #[.bool bom, .slice (some ⟨b, 0, none⟩) n cap] 30 (0, 0))) (hH : Holds w b L) (hL : L.length = cap) (hnc : n ≤ cap) (hn : n ≤ 1048576)
    (hR : RunsAt w g rp R) (hO : ROk n 0 R) (hRl : R.length ≤ 1048576) (hgb : g ≠ b) (hcap : cap ≤ maxLen) :
    Calls Tryf.prog 21 #[.pointer (some ⟨m, 0, none⟩), .slice rp R.length rcap] w fun e w' => e = .returned (.tuple #[]) ∧ ∃ L', w'.heap[m]? = some (.cells #[.bool bom, .slice (some ⟨b, 0, none⟩) (rem (L.take n) 0 R).length cap] 30 (0, 0)) ∧ Holds w' b L' ∧ L'.length = cap ∧ L'.take (rem (L.take n) 0 R).length = rem (L.take n) 0 R ∧ Oth (fun k => k = m ∨ k = b) w w' := by
  have hmb : m ≠ b := fun e => by subst e; rw [Holds] at hH; rw [hm] at hH; simp at hH
  unfold maxLen at hcap
  have HM := hide hm
  have HR := hide hR
  have HH := hide hH
  have HO := hide hO
  clear hm hR hH hO
  go_enter Tryf.func21, Tryf.ntmps21
  go_wp2
  go_loopw [4, 5, 10] (fun tk tn ti wr => ∃ (i next : Nat) (K L' : List Ln), i ≤ R.length ∧ tk = .int .i64 K.length ∧ tn = .int .i64 next ∧ ti = .int .i64 i ∧ Hid (Mid L cap L' K next) ∧ K.length ≤ next ∧ next ≤ n ∧ Hid (ROk n next (R.drop i)) ∧ Hid (K ++ rem (L.take n) next (R.drop i) = rem (L.take n) 0 R) ∧ Hid (Holds wr b L') ∧ Hid (Oth (fun k => k = b) w wr)) (fun _ _ ti _ => R.length - (intOf ti).toNat)
  case atStart => exact ⟨0, 0, [], L, Nat.zero_le _, rfl, rfl, rfl, by rw [← hL]; exact Mid.start L, Nat.le_refl _, Nat.zero_le _, HO, rfl, HH, Oth.refl _ _⟩
  case round =>
    obtain ⟨i, next, K, L', hi, rfl, rfl, rfl, HMid, hkn, hnn, HOk, HT, HHr, HOth⟩ := hrel
    have hmr := HOth.out.some HM.out hmb
    have cm : wr.cell? ⟨m, 1, none⟩ = some (.slice (some ⟨b, 0, none⟩) n cap) := by rw [cell_of_row wr m 1 _ _ _ hmr]; rfl
    have hmlt : m < wr.heap.size := (Array.getElem?_eq_some_iff.1 hmr).1
    clear hmr
    by_cases hlt : i < R.length
    · obtain ⟨a, e, hae⟩ : ∃ a e, rat R i = (a, e) := ⟨_, _, rfl⟩
      have hok := HOk.out
      rw [drop_rat hlt, hae] at hok
      obtain ⟨ho1, ho2, ho3⟩ := hok
      have hrp := HR.out.rp (by omega)
      have cr0 := HOth.out.cell (HR.out.c0 i hlt) hgb
      have cr1 := HOth.out.cell (HR.out.c1 i hlt) hgb
      rw [hae] at cr0 cr1
      have hen : e ≤ n := ho3.le
      subst hrp
      have HA := hide hae
      have HO3 := hide ho3
      clear hae ho3
      simp only at ho1 ho2 cr0 cr1
      obtain ⟨cs, hcs⟩ : ∃ cs, ((L.take n).drop next).take (a - next) = cs := ⟨_, rfl⟩
      have hcl : cs.length = a - next := by rw [← hcs]; simp; omega
      have hsrc := HMid.out.src (a := a) (n := n) (by omega)
      have hnew := HMid.out.step (a := a) (b := e) (n := n) hL hkn ho1 ho2 hen hnc
      rw [hcs] at hsrc hnew
      have hlen' := HMid.out.len
      have HS := hide hsrc
      have HNew := hide hnew
      have HCS := hide hcs
      have hblt : b < wr.heap.size := (Array.getElem?_eq_some_iff.1 HHr.out).1
      have HHa : Hid (Holds (wr.alloc (.cells #[.int .i64 a, .int .i64 e] 56)) b L') := (Below.heap_alloc _ _ _ hblt).trans HHr.out
      have hKn : K.length ≤ n := by omega
      have hac : a ≤ cap := by omega
      clear hsrc hnew hcs
      have hrv : (wr.alloc (.cells #[.int .i64 a, .int .i64 e] 56)).cell? ⟨wr.heap.size, 1, none⟩ = some (.int .i64 e) := by rw [World.cell?_alloc_at _ _ _ _ rfl]; rfl
      have HOr : Hid (Oth (fun k => k = b) w (wr.alloc (.cells #[.int .i64 a, .int .i64 e] 56))) := HOth.out.alloc _
      have HT2 : Hid ((K ++ cs) ++ rem (L.take n) e (R.drop (i + 1)) = rem (L.take n) 0 R) := by
        have := HT.out
        rw [drop_rat hlt, HA.out, rem, HCS.out, ← List.append_assoc] at this
        exact this
      have hne1 : ¬ cap = K.length := by omega
      have hne2 : ¬ cap = next := by omega
      go_wp2
      go_region_law (refine step_copy_lines rfl (.tmp 20) (.tmp 28) rfl Tryf.underlying27 Tryf.info42 (some ⟨b, K.length * 3, none⟩) (some ⟨b, next * 3, none⟩) (n - K.length) (cap - K.length) (a - next) (cap - next) (by simp [Act.eval, Act.put]) (by simp [Act.eval, Act.put]) b K.length next L' cs (fun _ => HHa.out) (by rw [hcl]; show _ = min _ _; omega) (fun h => by first | exact ⟨rfl, rfl⟩ | (exfalso; omega)) HS.out (by omega) ?_; intro w4 H1 H2 hgr; have c7 : w4.cell? ⟨wr.heap.size, 1, none⟩ = some (.int .i64 e) := grown_cell hgr (by exact hrv) (by omega); have HO4 : Hid (Oth (fun k => k = b) w w4) := (by exact HOr.out : Oth (fun k => k = b) w (wr.alloc (.cells #[.int .i64 a, .int .i64 e] 56))).drew.grown (by exact hgr) rfl; have HH4 : Hid (Holds w4 b (spl L' K.length cs)) := copy_holds H1.out H2.out (by exact HHa.out); clear H1 H2 hgr)
      all_goals
        go_wp2
        go_roundw
        case rel => exact ⟨i + 1, e, K ++ cs, spl L' K.length cs, by omega, by rw [List.length_append, hcl]; go_num, rfl, by go_num, HNew, by rw [List.length_append, hcl]; omega, hen, HO3, HT2, HH4, HO4⟩
        case measure => simp [intOf]; omega
    · have hiR : i = R.length := by omega
      obtain ⟨cs, hcs⟩ : ∃ cs, ((L.take n).drop next).take (n - next) = cs := ⟨_, rfl⟩
      have hcl : cs.length = n - next := by rw [← hcs]; simp; omega
      have hsrc := HMid.out.src (a := n) (n := n) (Nat.le_refl _)
      rw [hcs] at hsrc
      have hlen' := HMid.out.len
      have hKn : K.length ≤ n := by omega
      have hlt2 : (L.take n).length = n := by simp; omega
      have hF : K ++ cs = rem (L.take n) 0 R := by
        have h1 := HT.out
        rw [hiR, List.drop_length, rem] at h1
        rw [← h1, ← hcs, List.take_of_length_le (by rw [List.length_drop, hlt2]; exact Nat.le_refl _)]
      have hF2 : (spl L' K.length cs).take (K.length + cs.length) = K ++ cs ∧ (spl L' K.length cs).length = cap := by
        refine ⟨?_, by rw [spl_length _ _ _ (by omega)]; exact hlen'⟩
        have hl : (L'.take K.length ++ cs).length = K.length + cs.length := by simp; omega
        rw [spl, ← hl, List.take_left, HMid.out.kept]
      have HS := hide hsrc
      have HF := hide hF
      have HF2 := hide hF2
      clear hsrc hcs hF hF2 hlt2 HOk HT
      by_cases hnx : next < n
      · have hne1 : ¬ cap = K.length := by omega
        have hne2 : ¬ cap = next := by omega
        go_wp2
        go_region_law (refine step_copy_lines rfl (.tmp 40) (.tmp 46) rfl Tryf.underlying27 Tryf.info42 (some ⟨b, K.length * 3, none⟩) (some ⟨b, next * 3, none⟩) (n - K.length) (cap - K.length) (n - next) (cap - next) (by simp [Act.eval, Act.put]) (by simp [Act.eval, Act.put]) b K.length next L' cs (fun _ => HHr.out) (by rw [hcl]; show _ = min _ _; omega) (fun h => by first | exact ⟨rfl, rfl⟩ | (exfalso; omega)) HS.out (by omega) ?_; intro w4 H1 H2 hgr; have c4 : w4.cell? ⟨m, 1, none⟩ = some (.slice (some ⟨b, 0, none⟩) n cap) := grown_cell hgr (by exact cm) hmb; have HO4 : Hid (Oth (fun k => k = b) w w4) := (by exact HOth.out : Oth (fun k => k = b) w wr).drew.grown (by exact hgr) rfl; have HH4 : Hid (Holds w4 b (spl L' K.length cs)) := copy_holds H1.out H2.out (by exact HHr.out); have HM4 : Hid (w4.heap[m]? = some (.cells #[.bool bom, .slice (some ⟨b, 0, none⟩) n cap] 30 (0, 0))) := HO4.out.some HM.out hmb; have f4 : w4.frozen? ⟨m, 1, none⟩ = false := frozen_of_row w4 m 1 _ _ HM4.out; clear H1 H2 hgr)
        all_goals
          go_wp2
          go_end0
          exact ⟨rfl, rem_done HM4.out HH4.out HO4.out HF.out HF2.out hmb (by omega)⟩
      · by_cases hN : cap = next
        · obtain rfl : n = cap := by omega
          subst hN
          by_cases hK : n = K.length
          · subst hK
            go_wp2
            go_region_law (refine step_copy_lines rfl (.tmp 40) (.tmp 46) rfl Tryf.underlying27 Tryf.info42 (some ⟨b, 0, none⟩) (some ⟨b, 0, none⟩) (0) (0) (0) (0) (by simp [Act.eval, Act.put]) (by simp [Act.eval, Act.put]) b K.length K.length L' cs (fun _ => HHr.out) (by rw [hcl]; show _ = min _ _; omega) (fun h => by exfalso; omega) HS.out (by omega) ?_; intro w4 H1 H2 hgr; have c4 : w4.cell? ⟨m, 1, none⟩ = some (.slice (some ⟨b, 0, none⟩) K.length K.length) := grown_cell hgr (by exact cm) hmb; have HO4 : Hid (Oth (fun k => k = b) w w4) := (by exact HOth.out : Oth (fun k => k = b) w wr).drew.grown (by exact hgr) rfl; have HH4 : Hid (Holds w4 b (spl L' K.length cs)) := copy_holds H1.out H2.out (by exact HHr.out); have HM4 : Hid (w4.heap[m]? = some (.cells #[.bool bom, .slice (some ⟨b, 0, none⟩) K.length K.length] 30 (0, 0))) := HO4.out.some HM.out hmb; have f4 : w4.frozen? ⟨m, 1, none⟩ = false := frozen_of_row w4 m 1 _ _ HM4.out; clear H1 H2 hgr)
            all_goals
              go_wp2
              go_end0
              exact ⟨rfl, rem_done HM4.out HH4.out HO4.out HF.out HF2.out hmb (by omega)⟩
          · skip
            go_wp2
            go_region_law (refine step_copy_lines rfl (.tmp 40) (.tmp 46) rfl Tryf.underlying27 Tryf.info42 (some ⟨b, K.length * 3, none⟩) (some ⟨b, 0, none⟩) (n - K.length) (n - K.length) (0) (0) (by simp [Act.eval, Act.put]) (by simp [Act.eval, Act.put]) b K.length n L' cs (fun _ => HHr.out) (by rw [hcl]; show _ = min _ _; omega) (fun h => by exfalso; omega) HS.out (by omega) ?_; intro w4 H1 H2 hgr; have c4 : w4.cell? ⟨m, 1, none⟩ = some (.slice (some ⟨b, 0, none⟩) n n) := grown_cell hgr (by exact cm) hmb; have HO4 : Hid (Oth (fun k => k = b) w w4) := (by exact HOth.out : Oth (fun k => k = b) w wr).drew.grown (by exact hgr) rfl; have HH4 : Hid (Holds w4 b (spl L' K.length cs)) := copy_holds H1.out H2.out (by exact HHr.out); have HM4 : Hid (w4.heap[m]? = some (.cells #[.bool bom, .slice (some ⟨b, 0, none⟩) n n] 30 (0, 0))) := HO4.out.some HM.out hmb; have f4 : w4.frozen? ⟨m, 1, none⟩ = false := frozen_of_row w4 m 1 _ _ HM4.out; clear H1 H2 hgr)
            all_goals
              go_wp2
              go_end0
              exact ⟨rfl, rem_done HM4.out HH4.out HO4.out HF.out HF2.out hmb (by omega)⟩
        · have hne1 : ¬ cap = K.length := by omega
          go_wp2
          go_region_law (refine step_copy_lines rfl (.tmp 40) (.tmp 46) rfl Tryf.underlying27 Tryf.info42 (some ⟨b, K.length * 3, none⟩) (some ⟨b, next * 3, none⟩) (n - K.length) (cap - K.length) (n - next) (cap - next) (by simp [Act.eval, Act.put]) (by simp [Act.eval, Act.put]) b K.length next L' cs (fun _ => HHr.out) (by rw [hcl]; show _ = min _ _; omega) (fun h => by first | exact ⟨rfl, rfl⟩ | (exfalso; omega)) HS.out (by omega) ?_; intro w4 H1 H2 hgr; have c4 : w4.cell? ⟨m, 1, none⟩ = some (.slice (some ⟨b, 0, none⟩) n cap) := grown_cell hgr (by exact cm) hmb; have HO4 : Hid (Oth (fun k => k = b) w w4) := (by exact HOth.out : Oth (fun k => k = b) w wr).drew.grown (by exact hgr) rfl; have HH4 : Hid (Holds w4 b (spl L' K.length cs)) := copy_holds H1.out H2.out (by exact HHr.out); have HM4 : Hid (w4.heap[m]? = some (.cells #[.bool bom, .slice (some ⟨b, 0, none⟩) n cap] 30 (0, 0))) := HO4.out.some HM.out hmb; have f4 : w4.frozen? ⟨m, 1, none⟩ = false := frozen_of_row w4 m 1 _ _ HM4.out; clear H1 H2 hgr)
          all_goals
            go_wp2
            go_end0
            exact ⟨rfl, rem_done HM4.out HH4.out HO4.out HF.out HF2.out hmb (by omega)⟩
end Go.Proofs.Qxb6603539aFmt.Ds

import Derived.Test.Qxb6603539aStK
import Derived.Test.Qxb6603539aFold
import Derived.Test.Qxb6603539aWVal
namespace Go.Proofs.Qxb6603539a.Ds
open Go.RowKit

/-! ### The model's fold, no Go in sight -/
theorem WF.opn {Q : Nat} {S : List Sc} (h : WF Q S) (nm : ByteArray) : WF (Q + 1) (opn S nm) := by
  unfold Ds.opn
  split
  · exact h.mono (by omega)
  · rename_i hf; exact h.addSec (sidx_none hf)
theorem WF.opk {Q : Nat} {S : List Sc} (h : WF Q S) {i : Nat} (hi : i < S.length) (key : ByteArray) : WF (Q + 1) (opk S i key) := by
  unfold Ds.opk
  split
  · exact h.mono (by omega)
  · rename_i hf; exact h.addKey hi (kidx_none hf)
theorem opk_len (S : List Sc) (i : Nat) (key : ByteArray) : (opk S i key).length = S.length := by
  unfold opk; split
  · rfl
  · exact addKey_len _ _ _
theorem kidx_add {S : List Sc} {i : Nat} {key : ByteArray} (hi : i < S.length) (h : ¬ kidx (sat S i).ks key < (sat S i).ks.length) : kidx (sat (addKey S i key) i).ks key = (sat S i).ks.length ∧ (sat (addKey S i key) i).ks.length = (sat S i).ks.length + 1 := by
  unfold addKey
  rw [sat_set_same hi]
  refine ⟨kidx_eq (by simp) (by simp only; rw [kat_new]) (fun j hj => ?_), by simp⟩
  simp only
  rw [kat_app hj]; exact kidx_none h j hj
theorem kidx_opk {S : List Sc} {i : Nat} {key : ByteArray} (hi : i < S.length) : kidx (sat (opk S i key) i).ks key < (sat (opk S i key) i).ks.length := by
  unfold opk
  split
  · assumption
  · rename_i h; obtain ⟨h1, h2⟩ := kidx_add hi h; omega
theorem WF.ent {Q : Nat} {S : List Sc} (h : WF Q S) (nm key v : ByteArray) : WF (Q + 3) (ent S nm key v) := by
  unfold Ds.ent
  have h1 := h.opn nm
  have hi := sidx_opn S nm
  have h2 := h1.opk hi key
  exact h2.addVal (by rw [opk_len]; exact hi) (kidx_opk hi)

/-- What the model makes of the first i lines of a file. -/
def mS (S0 : List Sc) (ls : List Ln) : Nat → List Sc
  | 0 => S0
  | i + 1 => if (at' ls i).k = 2 then opn (mS S0 ls i) (nameOf (at' ls i).t) else if (at' ls i).k = 3 ∧ (stp ls i).2.2 = true then ent (mS S0 ls i) (stp ls i).1 (keyT (at' ls i).t) (EV ls i) else mS S0 ls i
theorem mS_head {S0 : List Sc} {ls : List Ln} {i : Nat} (h : (at' ls i).k = 2) : mS S0 ls (i + 1) = opn (mS S0 ls i) (nameOf (at' ls i).t) := by
  conv => lhs; unfold mS
  rw [if_pos h]
theorem mS_ent {S0 : List Sc} {ls : List Ln} {i : Nat} (h : (at' ls i).k = 3) (ho : (stp ls i).2.2 = true) : mS S0 ls (i + 1) = ent (mS S0 ls i) (stp ls i).1 (keyT (at' ls i).t) (EV ls i) := by
  conv => lhs; unfold mS
  rw [if_neg (by omega), if_pos ⟨h, ho⟩]
theorem mS_on {S0 : List Sc} {ls : List Ln} {i : Nat} (h : (at' ls i).k ≠ 2) (ho : ¬ ((at' ls i).k = 3 ∧ (stp ls i).2.2 = true)) : mS S0 ls (i + 1) = mS S0 ls i := by
  conv => lhs; unfold mS
  rw [if_neg h, if_neg ho]
theorem mS_wf {Q : Nat} {S0 : List Sc} (h : WF Q S0) (ls : List Ln) : ∀ i, WF (Q + 3 * i) (mS S0 ls i)
  | 0 => h
  | i + 1 => by
    have ih := mS_wf h ls i
    unfold mS
    split
    · exact (ih.opn _).mono (by omega)
    · split
      · exact (ih.ent _ _ _).mono (by omega)
      · exact ih.mono (by omega)

def fl (fs : List Fl) (k : Nat) : Fl := fs.getD k ⟨0, 0, none, []⟩
def lc (fs : List Fl) : Nat → Nat
  | 0 => 0
  | k + 1 => lc fs k + (fl fs k).ls.length
def modF (fs : List Fl) : Nat → List Sc
  | 0 => []
  | k + 1 => mS (modF fs k) (fl fs k).ls (fl fs k).ls.length
theorem modF_wf (fs : List Fl) : ∀ k, WF (3 * lc fs k) (modF fs k)
  | 0 => ⟨Nat.zero_le _, fun i j h => by simp [modF] at h, fun i h => by simp [modF] at h, fun i j l h => by simp [modF] at h, fun i j h => by simp [modF] at h⟩
  | k + 1 => by
    unfold modF lc
    exact (mS_wf (modF_wf fs k) _ _).mono (by omega)
theorem lc_mono (fs : List Fl) {k n : Nat} (h : k ≤ n) : lc fs k ≤ lc fs n := by
  induction n with
  | zero => obtain rfl : k = 0 := by omega
            exact Nat.le_refl _
  | succ n ih =>
    by_cases e : k = n + 1
    · subst e; exact Nat.le_refl _
    · exact Nat.le_trans (ih (by omega)) (by rw [lc]; omega)
theorem modF_at {fs : List Fl} {n k i : Nat} (hk : k < n) (hi : i ≤ (fl fs k).ls.length) (h : lc fs n ≤ 1000000) : WF 3000000 (mS (modF fs k) (fl fs k).ls i) := by
  have h1 := lc_mono fs (show k + 1 ≤ n by omega)
  rw [lc] at h1
  exact (mS_wf (modF_wf fs k) _ i).mono (by omega)
theorem fl_some {fs : List Fl} {k : Nat} (h : k < fs.length) : fs[k]? = some (fl fs k) := by simp [fl, List.getD, h]
theorem fl_mem {fs : List Fl} {k : Nat} (h : k < fs.length) : fl fs k ∈ fs := by
  have := fl_some h; exact List.mem_of_getElem? this

/-! ### Where the model's sections lie -/
theorem Try.info75m : (Try.prog.info? 75).map (fun i => (i.zero, i.size, i.bytes)) = some (some (.agg #[.string ⟨#[]⟩, .slice none 0 0]), 2, 40) := by kernel_rfl
theorem Try.info80m : (Try.prog.info? 80).map (fun i => (i.zero, i.size, i.bytes)) = some (some (.agg #[.string ⟨#[]⟩, .slice none 0 0]), 2, 40) := by kernel_rfl
theorem Try.info9m : (Try.prog.info? 9).map (fun i => (i.zero, i.size, i.bytes)) = some (some (.string ⟨#[]⟩), 1, 16) := by kernel_rfl

def MS (w : World) (B : Nat) (W : World) (v : Value) (S : List Sc) : Prop := Rep 75 80 B W v S ∧ Below B w W
theorem MS.below {w W W' : World} {B : Nat} {v : Value} {S : List Sc} (h : MS w B W v S) (hb : Below W.heap.size W W') (hB : B ≤ W.heap.size) : MS w B W' v S :=
  ⟨h.1.stay (Stay.below hb), h.2.trans (hb.mono hB)⟩
/-- A section is appended. -/
theorem MS.sec {w W Wa W1 : World} {B : Nat} {v v' : Value} {S : List Sc} {kv : Nat → Value} {vv : Nat → Nat → Value} {φk : Nat → Nat} {φv : Nat → Nat × Nat} {nm : ByteArray}
    (hR : RepV 75 80 B W v S kv vv φk φv) (hB : Below B w W) (hle : B ≤ W.heap.size) (ha : Below W.heap.size W Wa) (hg : Wa.grownBy W1 v.ownBlock)
    (ho : W1.ownsRow B 75 2 v' (S.length + 1) (pairs (fun i => .string (sat S i).nm) kv S.length ++ [.string nm, .slice none 0 0])) : MS w B W1 v' (addSec S nm) := by
  have hRa := hR.stay (Stay.below ha)
  refine ⟨hRa.sec (by decide) (by decide) hg ho, ?_⟩
  have h1 := hB.trans (ha.mono hle)
  exact h1.grown hg (Nat.le_trans hle ha.size) (fun k e => (hRa.row.lt k e).1)
theorem MS.key {w W Wa W1 : World} {B : Nat} {v k' : Value} {S : List Sc} {kv : Nat → Value} {vv : Nat → Nat → Value} {φk : Nat → Nat} {φv : Nat → Nat × Nat} {key : ByteArray} {i g : Nat}
    (hR : RepV 75 80 B W v S kv vv φk φv) (hB : Below B w W) (hle : B ≤ W.heap.size) (ha : Below W.heap.size W Wa) (hi : i < S.length) (hv : v.ownBlock = some g) (hg : Wa.grownBy W1 (kv i).ownBlock)
    (ho : W1.ownsRow B 80 2 k' ((sat S i).ks.length + 1) (pairs (fun j => .string (kat (sat S i).ks j).nm) (vv i) (sat S i).ks.length ++ [.string key, .slice none 0 0]))
    (hat : k'.ownBlock = (kv i).ownBlock ∨ k'.ownBlock = some Wa.heap.size) : MS w B (W1.setCell ⟨g, i * 2 + 1, none⟩ k') v (addKey S i key) ∧ W1.cell? ⟨g, i * 2 + 1, none⟩ = some (kv i) ∧ W1.frozen? ⟨g, i * 2 + 1, none⟩ = false := by
  have hRa := hR.stay (Stay.below ha)
  have h1 := hB.trans (ha.mono hle)
  have h2 := h1.grown hg (Nat.le_trans hle ha.size) (fun k e => ((hRa.keys i hi).lt k e).1)
  have hrow1 := own_grown hRa.row hg (fun g' hg' => own_ne hRa.row (hRa.keys i hi) (by decide) hg')
  obtain ⟨g', cp, hvs, hg', hg1, _, _, hc, hf⟩ := own_at hrow1 (by omega)
  obtain rfl : g' = g := by rw [hg'] at hv; exact Option.some.inj hv
  refine ⟨⟨hRa.key (by decide) (by decide) (by decide) hi hv hg ho hat, h2.setCell (p := ⟨g', i * 2 + 1, none⟩) hg1 _⟩, ?_, hf _⟩
  rw [hc _ (by omega), pairs_1 _ _ _ _ hi]
theorem MS.val {w W Wa W1 : World} {B : Nat} {v x' : Value} {S : List Sc} {kv : Nat → Value} {vv : Nat → Nat → Value} {φk : Nat → Nat} {φv : Nat → Nat × Nat} {x : ByteArray} {i j g : Nat}
    (hR : RepV 75 80 B W v S kv vv φk φv) (hB : Below B w W) (hle : B ≤ W.heap.size) (ha : Below W.heap.size W Wa) (hi : i < S.length) (hj : j < (sat S i).ks.length) (hv : (kv i).ownBlock = some g) (hg : Wa.grownBy W1 (vv i j).ownBlock)
    (ho : W1.ownsRow B 9 1 x' ((kat (sat S i).ks j).vs.length + 1) ((kat (sat S i).ks j).vs.map .string ++ [.string x]))
    (hat : x'.ownBlock = (vv i j).ownBlock ∨ x'.ownBlock = some Wa.heap.size) : MS w B (W1.setCell ⟨g, j * 2 + 1, none⟩ x') v (addVal S i j x) ∧ W1.cell? ⟨g, j * 2 + 1, none⟩ = some (vv i j) ∧ W1.frozen? ⟨g, j * 2 + 1, none⟩ = false ∧ (∀ g', v.ownBlock = some g' → W1.cell? ⟨g', i * 2 + 1, none⟩ = some (kv i)) := by
  have hRa := hR.stay (Stay.below ha)
  have h1 := hB.trans (ha.mono hle)
  have h2 := h1.grown hg (Nat.le_trans hle ha.size) (fun k e => ((hRa.vals i j hi hj).lt k e).1)
  have hkey1 := own_grown (hRa.keys i hi) hg (fun g' hg' => own_ne (hRa.keys i hi) (hRa.vals i j hi hj) (by decide) hg')
  have hrow1 := own_grown hRa.row hg (fun g' hg' => own_ne hRa.row (hRa.vals i j hi hj) (by decide) hg')
  obtain ⟨g', cp, hvs, hg', hg1, _, _, hc, hf⟩ := own_at hkey1 (by omega)
  obtain rfl : g' = g := by rw [hg'] at hv; exact Option.some.inj hv
  refine ⟨⟨hRa.val (by decide) (by decide) (by decide) hi hj hv hg ho hat, h2.setCell (p := ⟨g', j * 2 + 1, none⟩) hg1 _⟩, ?_, hf _, fun g2 hg2 => ?_⟩
  · rw [hc _ (by omega), pairs_1 _ _ _ _ hj]
  · obtain ⟨g3, cp3, _, hg3, _, _, _, hc3, _⟩ := own_at hrow1 (by omega)
    obtain rfl : g3 = g2 := by rw [hg3] at hg2; exact Option.some.inj hg2
    rw [hc3 _ (by omega), pairs_1 _ _ _ _ hi]
end Go.Proofs.Qxb6603539a.Ds

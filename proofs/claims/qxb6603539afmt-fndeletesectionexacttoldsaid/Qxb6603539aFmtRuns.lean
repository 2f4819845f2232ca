/-
  Runs of lines, and what is left when they are cut out; no Go in sight.
-/
import Derived.Test.Qxb6603539aFmtWCopy
namespace Go.Proofs.Qxb6603539aFmt.Ds
open Go.RowKit

/-- The run at place i. -/
def rat (R : List (Nat × Nat)) (i : Nat) : Nat × Nat := R.getD i (0, 0)

/-- Where the runs lie: two cells a run, at the head of block g. -/
structure RunsAt (w : World) (g : Nat) (rp : Option Addr) (R : List (Nat × Nat)) : Prop where
  rp : 0 < R.length → rp = some ⟨g, 0, none⟩
  c0 : ∀ i, i < R.length → w.cell? ⟨g, i * 2, none⟩ = some (.int .i64 (rat R i).1)
  c1 : ∀ i, i < R.length → w.cell? ⟨g, i * 2 + 1, none⟩ = some (.int .i64 (rat R i).2)

/-- In file order, not overlapping, from lo on, within n. -/
def ROk (n : Nat) : Nat → List (Nat × Nat) → Prop
  | lo, [] => lo ≤ n
  | lo, r :: R => lo ≤ r.1 ∧ r.1 < r.2 ∧ ROk n r.2 R
theorem ROk.le {n : Nat} : ∀ {lo : Nat} {R : List (Nat × Nat)}, ROk n lo R → lo ≤ n
  | _, [], h => h
  | _, _ :: _, h => by have := ROk.le h.2.2; have := h.1; have := h.2.1; omega

/-- What is left of the lines from lo on. -/
def rem (ls : List Ln) : Nat → List (Nat × Nat) → List Ln
  | lo, [] => ls.drop lo
  | lo, r :: R => (ls.drop lo).take (r.1 - lo) ++ rem ls r.2 R
theorem rem_length (ls : List Ln) : ∀ (lo : Nat) (R : List (Nat × Nat)), ROk ls.length lo R → (rem ls lo R).length + lo ≤ ls.length
  | lo, [], h => by simp [rem]; have : lo ≤ ls.length := h; omega
  | lo, r :: R, h => by
    have := rem_length ls r.2 R h.2.2
    have := h.1
    have := h.2.1
    simp [rem]; omega
theorem drop_rat {R : List (Nat × Nat)} {i : Nat} (h : i < R.length) : R.drop i = rat R i :: R.drop (i + 1) := by
  rw [List.drop_eq_getElem_cons h]; simp [rat, List.getD, h]

/-- The row of lines in the midst of the cutting: K has been kept, from 'next' on nothing has moved. -/
structure Mid (L : List Ln) (cap : Nat) (L' K : List Ln) (next : Nat) : Prop where
  len : L'.length = cap
  kept : L'.take K.length = K
  rest : L'.drop next = L.drop next
theorem Mid.start (L : List Ln) : Mid L L.length L [] 0 := ⟨rfl, by simp, rfl⟩
theorem Mid.step {L L' K : List Ln} {cap n next a b : Nat} (h : Mid L cap L' K next) (hL : L.length = cap) (hk : K.length ≤ next) (h1 : next ≤ a) (h2 : a < b) (hb : b ≤ n) (hn : n ≤ cap) :
    Mid L cap (spl L' K.length (((L.take n).drop next).take (a - next))) (K ++ ((L.take n).drop next).take (a - next)) b := by
  have hc : (((L.take n).drop next).take (a - next)).length = a - next := by simp; omega
  have hlen := h.len
  refine ⟨?_, ?_, ?_⟩
  · rw [spl_length _ _ _ (by rw [hc]; omega)]; exact hlen
  · rw [spl, List.length_append]
    have : (L'.take K.length ++ ((L.take n).drop next).take (a - next)).length = K.length + (((L.take n).drop next).take (a - next)).length := by simp; omega
    rw [← this, List.take_left, h.kept]
  · rw [spl, hc]
    have hl : (L'.take K.length ++ ((L.take n).drop next).take (a - next)).length = K.length + (a - next) := by rw [List.length_append, hc]; simp; omega
    rw [List.drop_append, List.drop_eq_nil_of_le (by rw [hl]; omega), List.nil_append, hl, List.drop_drop]
    have e : K.length + (a - next) + (b - (K.length + (a - next))) = b := by omega
    rw [e]
    have e2 : b = next + (b - next) := by omega
    rw [e2, ← List.drop_drop, h.rest, List.drop_drop]
/-- What a copy reads from 'next' on is still the old text. -/
theorem Mid.src {L L' K : List Ln} {cap n next a : Nat} (h : Mid L cap L' K next) (h1 : a ≤ n) : ((L.take n).drop next).take (a - next) = (L'.drop next).take (((L.take n).drop next).take (a - next)).length := by
  rw [h.rest]
  have e : ((L.take n).drop next).take (a - next) = (L.drop next).take (a - next) := by
    rw [List.drop_take, List.take_take]
    congr 1; omega
  rw [e]
  simp
#print axioms Mid.step
#print axioms Mid.src
end Go.Proofs.Qxb6603539aFmt.Ds

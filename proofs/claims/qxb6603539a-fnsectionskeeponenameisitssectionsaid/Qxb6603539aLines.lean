/-
  Lines as data, and where they lie in memory.
-/
import Derived.WalkKit
import Derived.Test.Qxb6603539aStr
namespace Go.Proofs.Qxb6603539a.Ds
open Go.RowKit

/-- A line: its text, its kind, its ending. -/
structure Ln where
  t : ByteArray
  k : Int
  e : Int

def nul : Ln := ⟨ByteArray.empty, 0, 0⟩

/-- The line at place i. -/
def at' (ls : List Ln) (i : Nat) : Ln := ls.getD i nul

/-- The lines lie at the head of block b: three cells a line. -/
structure Lies (w : World) (b : Nat) (ao : Option Addr) (ls : List Ln) : Prop where
  ao : 0 < ls.length → ao = some ⟨b, 0, none⟩
  c0 : ∀ i, i < ls.length → w.cell? ⟨b, i * 3, none⟩ = some (.string (at' ls i).t)
  c1 : ∀ i, i < ls.length → w.cell? ⟨b, i * 3 + 1, none⟩ = some (.int .u8 (at' ls i).k)
  c2 : ∀ i, i < ls.length → w.cell? ⟨b, i * 3 + 2, none⟩ = some (.int .u8 (at' ls i).e)

/-- The entry before place i: the nearest line of kind 3 with only lines of the kinds 0, 1, 4 in between; -1 where there is none. -/
def entB (ls : List Ln) : Nat → Int
  | 0 => -1
  | i + 1 => if (at' ls i).k = 3 then (i : Int) else if (at' ls i).k = 0 ∨ (at' ls i).k = 1 ∨ (at' ls i).k = 4 then entB ls i else -1
theorem entB_hit {ls : List Ln} {i : Nat} (h : (at' ls i).k = 3) : entB ls (i + 1) = i := by unfold entB; rw [if_pos h]
theorem entB_on {ls : List Ln} {i : Nat} (h : (at' ls i).k = 0 ∨ (at' ls i).k = 1 ∨ (at' ls i).k = 4) : entB ls (i + 1) = entB ls i := by
  conv => lhs; unfold entB
  rw [if_neg (by omega), if_pos h]
theorem entB_stop {ls : List Ln} {i : Nat} (h3 : (at' ls i).k ≠ 3) (h : ¬ ((at' ls i).k = 0 ∨ (at' ls i).k = 1 ∨ (at' ls i).k = 4)) : entB ls (i + 1) = -1 := by
  unfold entB; rw [if_neg h3, if_neg h]

/-! ### The cells of a list of lines -/
def flat : List Ln → List Value
  | [] => []
  | l :: r => .string l.t :: .int .u8 l.k :: .int .u8 l.e :: flat r
theorem flat_length : ∀ ls : List Ln, (flat ls).length = ls.length * 3
  | [] => rfl
  | l :: r => by simp [flat, flat_length r]; omega
theorem flat_append : ∀ a b : List Ln, flat (a ++ b) = flat a ++ flat b
  | [], b => rfl
  | l :: r, b => by simp [flat, flat_append r b]
theorem flat_take : ∀ (ls : List Ln) (k : Nat), (flat ls).take (k * 3) = flat (ls.take k)
  | [], k => by simp [flat]
  | l :: r, 0 => by simp [flat]
  | l :: r, k + 1 => by
    have e : (k + 1) * 3 = k * 3 + 3 := by omega
    rw [e]; simp [flat, flat_take r k]
theorem flat_drop : ∀ (ls : List Ln) (k : Nat), (flat ls).drop (k * 3) = flat (ls.drop k)
  | [], k => by simp [flat]
  | l :: r, 0 => by simp [flat]
  | l :: r, k + 1 => by
    have e : (k + 1) * 3 = k * 3 + 3 := by omega
    rw [e]; simp [flat, flat_drop r k]
theorem flat_0 : ∀ (ls : List Ln) (i : Nat), i < ls.length → (flat ls)[i * 3]? = some (.string (at' ls i).t)
  | [], i, h => by simp at h
  | l :: r, 0, h => by simp [flat, at']
  | l :: r, i + 1, h => by
    have e : (i + 1) * 3 = i * 3 + 3 := by omega
    rw [e]; simp only [flat, List.getElem?_cons_succ]; rw [flat_0 r i (by simpa using h)]; simp [at']
theorem flat_1 : ∀ (ls : List Ln) (i : Nat), i < ls.length → (flat ls)[i * 3 + 1]? = some (.int .u8 (at' ls i).k)
  | [], i, h => by simp at h
  | l :: r, 0, h => by simp [flat, at']
  | l :: r, i + 1, h => by
    have e : (i + 1) * 3 + 1 = i * 3 + 1 + 3 := by omega
    rw [e]; simp only [flat, List.getElem?_cons_succ]; rw [flat_1 r i (by simpa using h)]; simp [at']
theorem flat_2 : ∀ (ls : List Ln) (i : Nat), i < ls.length → (flat ls)[i * 3 + 2]? = some (.int .u8 (at' ls i).e)
  | [], i, h => by simp at h
  | l :: r, 0, h => by simp [flat, at']
  | l :: r, i + 1, h => by
    have e : (i + 1) * 3 + 2 = i * 3 + 2 + 3 := by omega
    rw [e]; simp only [flat, List.getElem?_cons_succ]; rw [flat_2 r i (by simpa using h)]; simp [at']
theorem flat_one (ls : List Ln) : ∀ v ∈ flat ls, v.oneCell' = true := by
  induction ls with
  | nil => intro v h; simp [flat] at h
  | cons l r ih =>
    intro v h
    simp only [flat, List.mem_cons] at h
    rcases h with rfl | rfl | rfl | h
    · rfl
    · rfl
    · rfl
    · exact ih v h

/-- Block b is a row of lines: the list L, its spare room with it. -/
def Holds (w : World) (b : Nat) (L : List Ln) : Prop := w.heap[b]? = some (.cells (flat L).toArray 38 (0, 0))

theorem at_take {L : List Ln} {n i : Nat} (h : i < n) : at' (L.take n) i = at' L i := by simp [at', List.getD, h]

theorem Holds.lies {w : World} {b n : Nat} {L : List Ln} (h : Holds w b L) (hn : n ≤ L.length) : Lies w b (some ⟨b, 0, none⟩) (L.take n) := by
  have hl : (L.take n).length = n := by simp; omega
  refine ⟨fun _ => rfl, fun i hi => ?_, fun i hi => ?_, fun i hi => ?_⟩
  · rw [hl] at hi; rw [cell_of_row w b _ _ _ _ h, at_take hi]; simpa using flat_0 L i (by omega)
  · rw [hl] at hi; rw [cell_of_row w b _ _ _ _ h, at_take hi]; simpa using flat_1 L i (by omega)
  · rw [hl] at hi; rw [cell_of_row w b _ _ _ _ h, at_take hi]; simpa using flat_2 L i (by omega)

/-- WHERE THE LINES OF A FILE LIE: nil, or n lines at the head of a row. -/
def LV (w : World) (b n cap : Nat) (ao : Option Addr) (L : List Ln) : Prop :=
  (ao = none ∧ n = 0 ∧ cap = 0 ∧ L = []) ∨ (ao = some ⟨b, 0, none⟩ ∧ n ≤ cap ∧ L.length = cap ∧ Holds w b L)
theorem LV.lies {w : World} {b n cap : Nat} {ao : Option Addr} {L : List Ln} (h : LV w b n cap ao L) : Lies w b ao (L.take n) := by
  rcases h with ⟨rfl, rfl, rfl, rfl⟩ | ⟨rfl, h1, h2, h3⟩
  · exact ⟨fun h => by simp at h, fun i h => by simp at h, fun i h => by simp at h, fun i h => by simp at h⟩
  · exact h3.lies (by omega)
theorem LV.len {w : World} {b n cap : Nat} {ao : Option Addr} {L : List Ln} (h : LV w b n cap ao L) : (L.take n).length = n ∧ n ≤ cap := by
  rcases h with ⟨rfl, rfl, rfl, rfl⟩ | ⟨rfl, h1, h2, h3⟩
  · simp
  · simp; omega
theorem LV.kept {w w' : World} {b n cap : Nat} {ao : Option Addr} {L : List Ln} (h : LV w b n cap ao L) (hk : w.heap[b]? = some (.cells (flat L).toArray 38 (0, 0)) → w'.heap[b]? = some (.cells (flat L).toArray 38 (0, 0))) : LV w' b n cap ao L := by
  rcases h with h | ⟨h0, h1, h2, h3⟩
  · exact .inl h
  · exact .inr ⟨h0, h1, h2, hk h3⟩

/-! ### The parts of a file, as the iterator hands them out -/
structure Part where
  nm : ByteArray
  h : Int
  e : Int

/-- The reader's state when i lines have been read: the name of the part, its header's place, whether it is open. -/
def stp (ls : List Ln) : Nat → ByteArray × Int × Bool
  | 0 => (ByteArray.empty, -1, true)
  | i + 1 => if (at' ls i).k = 2 then (nameOf (at' ls i).t, (i : Int), true) else if (at' ls i).k = 5 then (ByteArray.empty, (i : Int), false) else stp ls i
theorem stp_head {ls : List Ln} {i : Nat} (h : (at' ls i).k = 2) : stp ls (i + 1) = (nameOf (at' ls i).t, (i : Int), true) := by unfold stp; rw [if_pos h]
theorem stp_bad {ls : List Ln} {i : Nat} (h : (at' ls i).k = 5) : stp ls (i + 1) = (ByteArray.empty, (i : Int), false) := by unfold stp; rw [if_neg (by omega), if_pos h]
theorem stp_on {ls : List Ln} {i : Nat} (h : (at' ls i).k ≠ 2) (h' : (at' ls i).k ≠ 5) : stp ls (i + 1) = stp ls i := by
  conv => lhs; unfold stp
  rw [if_neg h, if_neg h']

/-- The parts that were handed out when i lines have been read. -/
def prts (ls : List Ln) : Nat → List Part
  | 0 => []
  | i + 1 => if ((at' ls i).k = 2 ∨ (at' ls i).k = 5) ∧ (stp ls i).2.2 = true then prts ls i ++ [⟨(stp ls i).1, (stp ls i).2.1, (i : Int)⟩] else prts ls i
theorem prts_yield {ls : List Ln} {i : Nat} (h : (at' ls i).k = 2 ∨ (at' ls i).k = 5) (ho : (stp ls i).2.2 = true) : prts ls (i + 1) = prts ls i ++ [⟨(stp ls i).1, (stp ls i).2.1, (i : Int)⟩] := by
  conv => lhs; unfold prts
  rw [if_pos ⟨h, ho⟩]
theorem prts_on {ls : List Ln} {i : Nat} (h : ¬ (((at' ls i).k = 2 ∨ (at' ls i).k = 5) ∧ (stp ls i).2.2 = true)) : prts ls (i + 1) = prts ls i := by
  conv => lhs; unfold prts
  rw [if_neg h]
def allParts (ls : List Ln) : List Part := prts ls ls.length ++ (if (stp ls ls.length).2.2 = true then [⟨(stp ls ls.length).1, (stp ls ls.length).2.1, (ls.length : Int)⟩] else [])
theorem prts_pre (ls : List Ln) : ∀ (d i : Nat), prts ls i <+: prts ls (i + d)
  | 0, i => List.prefix_refl _
  | d + 1, i => by
    refine (prts_pre ls d i).trans ?_
    rw [show i + (d + 1) = (i + d) + 1 by omega]
    by_cases h : ((at' ls (i + d)).k = 2 ∨ (at' ls (i + d)).k = 5) ∧ (stp ls (i + d)).2.2 = true
    · rw [prts_yield h.1 h.2]; exact List.prefix_append _ _
    · rw [prts_on h]; exact List.prefix_refl _
theorem prts_all (ls : List Ln) (i : Nat) (h : i ≤ ls.length) : prts ls i <+: allParts ls := by
  have := prts_pre ls (ls.length - i) i
  rw [show i + (ls.length - i) = ls.length by omega] at this
  exact this.trans (List.prefix_append _ _)
#print axioms prts_all
#print axioms LV.lies
end Go.Proofs.Qxb6603539a.Ds

/-
  The callees' contracts, each in one piece.
-/
import Derived.Test.Qxb6603539aFmtWDel
import Derived.Test.Qxb6603539aFmtWZS
import Derived.Test.Qxb6603539aFmtWZN
import Derived.Test.Qxb6603539aFmtPl
namespace Go.Proofs.Qxb6603539aFmt.Ds
open Go.RowKit

/-- The given lines: n of them; where there is one, at block zb from cell zo on. -/
structure Giv (w : World) (ao : Option Addr) (zb zo n : Nat) (ls : List Ln) : Prop where
  len : ls.length = n
  nil : ao = none → n = 0
  ao : 0 < n → ao = some ⟨zb, zo, none⟩
  lt : 0 < n → zb < w.heap.size
  zl : ZL w zb zo ls
theorem Giv.below {w w' : World} {ao : Option Addr} {zb zo n : Nat} {ls : List Ln} (h : Giv w ao zb zo n ls) (hb : Below w.heap.size w w') : Giv w' ao zb zo n ls := by
  refine ⟨h.len, h.nil, h.ao, fun h0 => by have := h.lt h0; have := hb.size; omega, ?_⟩
  have hk : ∀ i, i < ls.length → ∀ j, w'.cell? ⟨zb, j, none⟩ = w.cell? ⟨zb, j, none⟩ := fun i hi j => hb.cell (by exact h.lt (by have := h.len; omega))
  exact ⟨fun i hi => (hk i hi _).trans (h.zl.c0 i hi), fun i hi => (hk i hi _).trans (h.zl.c1 i hi), fun i hi => (hk i hi _).trans (h.zl.c2 i hi)⟩

/-- A new row of these lines. -/
def NewL (w : World) (n : Nat) (ls : List Ln) (e : Ending) (w' : World) : Prop :=
  ∃ ao b, e = .returned (.slice ao n n) ∧ LV w' b n n ao ls ∧ b = w.heap.size ∧ Below w.heap.size w w'

theorem tol_any (ao : Option Addr) (zb zo n cap : Nat) (ls : List Ln) (w : World) (hg : Giv w ao zb zo n ls) (hn : n ≤ 1048576) : Calls Tryf.prog 8 #[.slice ao n cap] w fun e w' => NewL w n ls e w' := by
  rcases ao with _ | x
  · refine (tol_nil n cap w).mono ?_
    rintro e w' ⟨rfl, rfl⟩
    obtain rfl := hg.nil rfl
    exact ⟨none, w'.heap.size, rfl, .inl ⟨rfl, rfl, rfl, List.eq_nil_of_length_eq_zero hg.len⟩, rfl, Below.refl _ _⟩
  · refine (tol_some x zb zo n cap ls w hg.len hn (fun h => by have := hg.ao h; cases this; rfl) hg.lt hg.zl).mono ?_
    rintro e w' ⟨rfl, hh, hb⟩
    exact ⟨_, _, rfl, .inr ⟨rfl, Nat.le_refl _, hg.len, hh⟩, rfl, hb⟩

theorem LV.giv {w : World} {b n cap : Nat} {ao : Option Addr} {L : List Ln} (h : LV w b n cap ao L) : Giv w ao b 0 n (L.take n) := by
  have hl := h.lies
  rcases h with ⟨rfl, rfl, rfl, rfl⟩ | ⟨rfl, h1, h2, h3⟩
  · exact ⟨by simp, fun _ => rfl, fun h => by omega, fun h => by omega, ⟨fun i h => by simp at h, fun i h => by simp at h, fun i h => by simp at h⟩⟩
  · exact ⟨by simp; omega, (fun h => by cases h), fun _ => rfl, fun _ => lt_of_some h3, ⟨fun i hi => by rw [Nat.zero_add]; exact hl.c0 i hi, fun i hi => by rw [Nat.zero_add]; exact hl.c1 i hi, fun i hi => by rw [Nat.zero_add]; exact hl.c2 i hi⟩⟩

theorem clone_any (ao : Option Addr) (zb zo n cap : Nat) (ls : List Ln) (w : World) (hg : Giv w ao zb zo n ls) (hn : n ≤ 1048576) : Calls Tryf.prog 14 #[.slice ao n cap] w fun e w' => NewL w n ls e w' := by
  rcases ao with _ | x
  · refine (clone_nil n cap w).mono ?_
    rintro e w' ⟨rfl, rfl⟩
    obtain rfl := hg.nil rfl
    exact ⟨none, w'.heap.size, rfl, .inl ⟨rfl, rfl, rfl, List.eq_nil_of_length_eq_zero hg.len⟩, rfl, Below.refl _ _⟩
  · refine (clone_some x zb zo n cap ls w hg.len hn (fun h => by have := hg.ao h; cases this; rfl) hg.lt hg.zl).mono ?_
    rintro e w' ⟨rfl, hh, hb⟩
    exact ⟨_, _, rfl, .inr ⟨rfl, Nat.le_refl _, hg.len, hh⟩, rfl, hb⟩

theorem del_empty (m : Nat) (sec : ByteArray) (w : World) (hs : sec.size = 0) :
    Calls Tryf.prog 9 #[.pointer (some ⟨m, 0, none⟩), .string sec] w fun e w' => (∃ v, e = .returned (.tuple #[.bool false, .iface 64 v])) ∧ Below w.heap.size w w' := by
  have he := emp_yes hs
  have HN := hide (fun s w => new_any s w)
  refine (callsIn_wide (n := 4)).1 (callsIn_of_wp_marks Tryf.func9 rfl trivial (wpIn_wide.2 ?_) rfl)
  simp only [Tryf.ntmps9, List.size_toArray, List.length_cons, List.length_nil, Nat.reduceAdd, Nat.reduceSub, Array.replicate_succ, Array.replicate_zero, List.push_toArray, List.append_toArray, List.nil_append, List.cons_append]
  go_wp2_with (go_at_call 16; refine (HN.out _ _).mono ?_; rintro e w' ⟨⟨v, rfl⟩, hb⟩)
  exact ⟨_, results_tmp2 rfl _ _ _, ⟨_, rfl⟩, ((Below.refl _ _).alloc (Nat.le_refl _) _).trans (hb.mono (by simp))⟩

def Refd (ls : List Ln) (sec : ByteArray) : Prop := sec.size = 0 ∨ ∃ r ∈ runsOf ls sec, badRun ls r

/-- What a call of DeleteSection comes to: refused, and nothing that was there has turned; or carried out. -/
def DelAll (ls : List Ln) (sec : ByteArray) (m b cap : Nat) (ao : Option Addr) (bom : Bool) (w : World) (e : Ending) (w' : World) : Prop :=
  (Refd ls sec ∧ (∃ v, e = .returned (.tuple #[.bool false, .iface 64 v])) ∧ Below w.heap.size w w') ∨
  (¬ Refd ls sec ∧ e = .returned (.tuple #[.bool (decide (0 < (runsOf ls sec).length)), .nilIface]) ∧ ∃ L', w'.heap[m]? = some (.cells #[.bool bom, .slice ao (rem ls 0 (runsOf ls sec)).length cap] 30 (0, 0)) ∧ LV w' b (rem ls 0 (runsOf ls sec)).length cap ao L' ∧ L'.take (rem ls 0 (runsOf ls sec)).length = rem ls 0 (runsOf ls sec) ∧ Oth (fun k => k = m ∨ k = b) w w')

theorem del_all (sec : ByteArray) (m b k0 cap : Nat) (ao : Option Addr) (bom : Bool) (L : List Ln) (w : World) (F : Go.Stop.Interp) (hF : F.answers w.tape)
    (hL : LV w b k0 cap ao L) (hm : w.heap[m]? = some (.cells #[.bool bom, .slice ao k0 cap] 30 (0, 0)))
    (hk0 : k0 ≤ 1048576) (hcap : cap ≤ maxLen) (hsound : Sound (L.take k0)) (htx : ∀ i, i < (L.take k0).length → (at' (L.take k0) i).t.size ≤ 1048576) :
    Calls Tryf.prog 9 #[.pointer (some ⟨m, 0, none⟩), .string sec] w fun e w' => DelAll (L.take k0) sec m b cap ao bom w e w' := by
  have hll := hL.len.1
  by_cases hs : sec.size = 0
  · refine (del_empty m sec w hs).mono ?_
    rintro e w' ⟨h1, h2⟩
    exact .inl ⟨.inl hs, h1, h2⟩
  · refine (del_any sec m b k0 cap ao bom L w (by omega) F hF hL hm hk0 hcap (by unfold Sound at hsound; rw [hll] at hsound; exact hsound) (fun i hi => by have := htx i (by omega); unfold maxLen; omega)).mono ?_
    rintro e w' (⟨h1, h2, h3⟩ | ⟨h1, h2, h3⟩)
    · exact .inl ⟨.inr h1, h2, h3⟩
    · exact .inr ⟨fun h => by rcases h with h | ⟨r, hr, hb⟩; exact hs h; exact h1 r hr hb, h2, h3⟩
#print axioms del_all
end Go.Proofs.Qxb6603539aFmt.Ds

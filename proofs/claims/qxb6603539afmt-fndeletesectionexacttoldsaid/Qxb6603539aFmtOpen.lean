/-
  THE GIVEN LINES, OPENED: a slice of structs of a string and two bytes.
-/
import Derived.Test.Qxb6603539aFmtWC
import Derived.Deep.Strs
namespace Go.Proofs.Qxb6603539aFmt.Ds
open Go.RowKit Go.ChangeShapes Go.WideShapes Go.Deep

theorem Tryf.cells46 : Tryf.prog.cellsOf 46 = 3 := by kernel_rfl
theorem Tryf.cells9 : Tryf.prog.cellsOf 9 = 1 := by kernel_rfl
theorem Tryf.cells5 : Tryf.prog.cellsOf 5 = 1 := by kernel_rfl

theorem giv_of_trod {H : Type} {enc : TypeId × Value → H} {W : World} {sp : Nat → Bool} {held : Bool} {fuel n cap : Nat} {ao : Option Addr} {x : DataW H × List MemPlace}
    (h : DataW.trod enc Tryf.prog W 0 sp held fuel 22 [.slice ao n cap] = some x) : ∃ zb zo ls, Giv W ao zb zo n ls := by
  rcases open_slice Tryf.underlying22 h with ⟨hc, _⟩ | ⟨a, len, cap', m, k, D, Pl, hc, _, hl, hm, hmm, _, hx⟩
  · simp only [List.cons.injEq, Value.slice.injEq, and_true] at hc
    obtain ⟨rfl, rfl, rfl⟩ := hc
    exact ⟨0, 0, [], rfl, fun _ => rfl, fun h => by omega, fun h => by omega, ⟨fun i hi => by simp at hi, fun i hi => by simp at hi, fun i hi => by simp at hi⟩⟩
  · simp only [List.cons.injEq, Value.slice.injEq, and_true] at hc
    obtain ⟨rfl, rfl, rfl⟩ := hc
    have hlm : n ≤ m := by rw [hmm]; split <;> omega
    have each : ∀ i, i < n → ∃ l : Ln, W.cell? (a.add (i * 3)) = some (.string l.t) ∧ W.cell? (a.add (i * 3 + 1)) = some (.int .u8 l.k) ∧ W.cell? (a.add (i * 3 + 2)) = some (.int .u8 l.e) := by
      intro i hi
      obtain ⟨cs', h1, h2⟩ := hx i (by omega)
      rw [Tryf.cells46] at h1
      obtain ⟨_, hlen, hcell⟩ := World.cells?_some h1
      obtain ⟨y0, y1, y2, q, _, _, t0, t1, t2⟩ := trod_struct3 Tryf.underlying46 h2
      match cs', hlen with
      | [v0, v1, v2], _ =>
        obtain ⟨s, e0, _, _⟩ := DataW.trod_string Tryf.underlying9 t0
        obtain ⟨k1, e1, _, _⟩ := DataW.trod_int Tryf.underlying5 t1
        obtain ⟨k2, e2, _, _⟩ := DataW.trod_int Tryf.underlying5 t2
        have c0 := hcell 0 (by omega)
        have c1 := hcell 1 (by omega)
        have c2 := hcell 2 (by omega)
        rw [add_add] at c0 c1 c2
        simp [Tryf.cells9, Tryf.cells5] at e0 e1 e2
        subst e0; subst e1; subst e2
        exact ⟨⟨s, k1, k2⟩, by simpa using c0, by simpa using c1, by simpa using c2⟩
    obtain ⟨f, hf⟩ := @choose_lt Ln ⟨nul⟩ _ _ each
    obtain ⟨b, o, spot⟩ := a
    have hat : ∀ i, i < n → at' ((List.range n).map f) i = f i := fun i hi => by simp [at', List.getD, hi]
    have hsp : 0 < n → spot = none := fun h0 => by simpa [Addr.add] using World.cell?_spot (hf 0 h0).1
    have hlt : 0 < n → b < W.heap.size := fun h0 => by
      have := block_lt_of_cell (hf 0 h0).1
      simpa [Addr.add] using this
    refine ⟨b, o, (List.range n).map f, by simp, (fun h => by cases h), (fun h0 => by rw [hsp h0]), hlt, ?_⟩
    have hl2 : ∀ i, i < ((List.range n).map f).length → i < n := fun i hi => by simpa using hi
    refine ⟨fun i hi => ?_, fun i hi => ?_, fun i hi => ?_⟩
    · have hi' := hl2 i hi
      have := (hf i hi').1
      rw [hsp (by omega), Addr.add_lit] at this
      rw [hat i hi']; exact this
    · have hi' := hl2 i hi
      have := (hf i hi').2.1
      rw [hsp (by omega), Addr.add_lit] at this
      rw [hat i hi', Nat.add_assoc]; exact this
    · have hi' := hl2 i hi
      have := (hf i hi').2.2
      rw [hsp (by omega), Addr.add_lit] at this
      rw [hat i hi', Nat.add_assoc]; exact this
#print axioms giv_of_trod
end Go.Proofs.Qxb6603539aFmt.Ds

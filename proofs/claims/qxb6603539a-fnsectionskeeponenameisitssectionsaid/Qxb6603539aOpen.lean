import Derived.Test.Qxb6603539aWF1
import Derived.Deep.Strs
namespace Go.Proofs.Qxb6603539a.Ds
open Go.RowKit Go.ChangeShapes Go.WideShapes Go.Deep

theorem Try.cells61 : Try.prog.cellsOf 61 = 3 := by kernel_rfl
theorem Try.cells22 : Try.prog.cellsOf 22 = 1 := by kernel_rfl
theorem Try.cells9 : Try.prog.cellsOf 9 = 1 := by kernel_rfl
theorem Try.cells5 : Try.prog.cellsOf 5 = 1 := by kernel_rfl

structure Giv (W : World) (ao : Option Addr) (zb zo n : Nat) (ls : List Ln) : Prop where
  len : ls.length = n
  ao : 0 < n → ao = some ⟨zb, zo, none⟩
  lt : 0 < n → zb < W.heap.size
  zl : ZL W zb zo ls

set_option maxRecDepth 100000 in
theorem giv_of_trod {H : Type} {enc : TypeId × Value → H} {W : World} {sp : Nat → Bool} {held : Bool} {fuel n cap : Nat} {ao : Option Addr} {x : DataW H × List MemPlace}
    (h : DataW.trod enc Try.prog W 0 sp held fuel 22 [.slice ao n cap] = some x) : ∃ zb zo ls, Giv W ao zb zo n ls := by
  rcases open_slice Try.underlying22 h with ⟨hc, _⟩ | ⟨a, len, cap', m, k, D, Pl, hc, _, hl, hm, hmm, _, hx⟩
  · simp only [List.cons.injEq, Value.slice.injEq, and_true] at hc
    obtain ⟨rfl, rfl, rfl⟩ := hc
    exact ⟨0, 0, [], rfl, fun h => by omega, fun h => by omega, ⟨fun i hi => by simp at hi, fun i hi => by simp at hi, fun i hi => by simp at hi⟩⟩
  · simp only [List.cons.injEq, Value.slice.injEq, and_true] at hc
    obtain ⟨rfl, rfl, rfl⟩ := hc
    have hlm : n ≤ m := by rw [hmm]; split <;> omega
    have each : ∀ i, i < n → ∃ l : Ln, W.cell? (a.add (i * 3)) = some (.string l.t) ∧ W.cell? (a.add (i * 3 + 1)) = some (.int .u8 l.k) ∧ W.cell? (a.add (i * 3 + 2)) = some (.int .u8 l.e) := by
      intro i hi
      obtain ⟨cs', h1, h2⟩ := hx i (by omega)
      rw [Try.cells61] at h1
      obtain ⟨_, hlen, hcell⟩ := World.cells?_some h1
      obtain ⟨y0, y1, y2, q, _, _, t0, t1, t2⟩ := trod_struct3 Try.underlying61 h2
      match cs', hlen with
      | [v0, v1, v2], _ =>
        obtain ⟨s, e0, _, _⟩ := DataW.trod_string Try.underlying9 t0
        obtain ⟨k1, e1, _, _⟩ := DataW.trod_int Try.underlying5 t1
        obtain ⟨k2, e2, _, _⟩ := DataW.trod_int Try.underlying5 t2
        have c0 := hcell 0 (by omega)
        have c1 := hcell 1 (by omega)
        have c2 := hcell 2 (by omega)
        rw [add_add] at c0 c1 c2
        simp [Try.cells9, Try.cells5] at e0 e1 e2
        subst e0; subst e1; subst e2
        exact ⟨⟨s, k1, k2⟩, by simpa using c0, by simpa using c1, by simpa using c2⟩
    obtain ⟨f, hf⟩ := @choose_lt Ln ⟨nul⟩ _ _ each
    obtain ⟨b, o, spot⟩ := a
    have hat : ∀ i, i < n → at' ((List.range n).map f) i = f i := fun i hi => by simp [at', List.getD, hi]
    have hsp : 0 < n → spot = none := fun h0 => by simpa [Addr.add] using World.cell?_spot (hf 0 h0).1
    have hlt : 0 < n → b < W.heap.size := fun h0 => by
      have := block_lt_of_cell (hf 0 h0).1
      simpa [Addr.add] using this
    refine ⟨b, o, (List.range n).map f, by simp, (fun h0 => by rw [hsp h0]), hlt, ?_⟩
    have hl2 : ∀ i, i < ((List.range n).map f).length → i < n := fun i hi => by simpa using hi
    refine ⟨fun i hi => ?_, fun i hi => ?_, fun i hi => ?_⟩
    · have hi' := hl2 i hi
      have := (hf i hi').1
      rw [hsp (by omega), Addr.add_lit] at this
      rw [hat i hi']; exact this
    · have hi' := hl2 i hi
      have := (hf i hi').2.1
      rw [hsp (by omega), Addr.add_lit] at this
      rw [hat i hi', Nat.add_assoc]; exact this
    · have hi' := hl2 i hi
      have := (hf i hi').2.2
      rw [hsp (by omega), Addr.add_lit] at this
      rw [hat i hi', Nat.add_assoc]; exact this

/-- One given file as the reader finds it. -/
def ZfAt (W : World) (z : Zf) : Prop := (0 < z.ls.length → z.ao = some ⟨z.zb, z.zo, none⟩) ∧ ZL W z.zb z.zo z.ls ∧ (0 < z.ls.length → z.zb < W.heap.size)

set_option maxRecDepth 100000 in
theorem files_of_trod {H : Type} {enc : TypeId × Value → H} {W : World} {sp : Nat → Bool} {held : Bool} {fuel n cap : Nat} {ao : Option Addr} {x : DataW H × List MemPlace}
    (h : DataW.trod enc Try.prog W 0 sp held fuel 42 [.slice ao n cap] = some x) : ∃ ob oo, ∃ zs : List Zf, zs.length = n ∧ (0 < n → ao = some ⟨ob, oo, none⟩) ∧ ZFs W ob oo zs := by
  rcases open_slice Try.underlying42 h with ⟨hc, _⟩ | ⟨a, len, cap', m, k, D, Pl, hc, _, hl, hm, hmm, _, hx⟩
  · simp only [List.cons.injEq, Value.slice.injEq, and_true] at hc
    obtain ⟨rfl, rfl, rfl⟩ := hc
    exact ⟨0, 0, [], rfl, fun h => by omega, ⟨fun i hi => by simp at hi, fun i hi => by simp at hi, fun i hi => by simp at hi, fun i hi => by simp at hi, fun hi => by simp at hi⟩⟩
  · simp only [List.cons.injEq, Value.slice.injEq, and_true] at hc
    obtain ⟨rfl, rfl, rfl⟩ := hc
    have hlm : n ≤ m := by rw [hmm]; split <;> omega
    have each : ∀ i, i < n → ∃ z : Zf, W.cell? (a.add i) = some (.slice z.ao z.ls.length z.cap) ∧ ZfAt W z := by
      intro i hi
      obtain ⟨cs', h1, h2⟩ := hx i (by omega)
      rw [Try.cells22] at h1
      obtain ⟨_, hlen, hcell⟩ := World.cells?_some h1
      have c0 := hcell 0 (by omega)
      rw [add_add, Nat.mul_one, Nat.add_zero] at c0
      have key : ∀ (ao' : Option Addr) (n' cap' : Nat), cs' = [.slice ao' n' cap'] → ∃ z : Zf, W.cell? (a.add i) = some (.slice z.ao z.ls.length z.cap) ∧ ZfAt W z := fun ao' n' cap' hc => by
        subst hc
        obtain ⟨zb, zo, ls, g1, g2, g3, g4⟩ := giv_of_trod h2
        exact ⟨⟨ao', zb, zo, cap', ls⟩, by rw [c0]; simp only [g1]; rfl, by simp only [g1]; exact g2, g4, by simp only [g1]; exact g3⟩
      rcases open_slice Try.underlying22 h2 with ⟨hc, _⟩ | ⟨a2, len2, cap2, _, _, _, _, hc, _⟩
      · exact key _ _ _ hc
      · exact key _ _ _ hc
    obtain ⟨f, hf⟩ := @choose_lt Zf ⟨⟨none, 0, 0, 0, []⟩⟩ _ _ each
    obtain ⟨b, o, spot⟩ := a
    have hat : ∀ i, i < n → zf ((List.range n).map f) i = f i := fun i hi => by simp [zf, List.getD, hi]
    have hsp : 0 < n → spot = none := fun h0 => by simpa [Addr.add] using World.cell?_spot (hf 0 h0).1
    have hlt : 0 < n → b < W.heap.size := fun h0 => by
      have := block_lt_of_cell (hf 0 h0).1
      simpa [Addr.add] using this
    have hl2 : ∀ i, i < ((List.range n).map f).length → i < n := fun i hi => by simpa using hi
    refine ⟨b, o, (List.range n).map f, by simp, (fun h0 => by rw [hsp h0]), ?_⟩
    refine ⟨fun i hi => ?_, fun i hi => ?_, fun i hi => ?_, fun i hi => ?_, fun hi => hlt (by simpa using hi)⟩
    · have hi' := hl2 i hi
      have := (hf i hi').1
      rw [hsp (by omega), Addr.add_lit] at this
      rw [hat i hi']; exact this
    · rw [hat i (hl2 i hi)]; exact (hf i (hl2 i hi)).2.1
    · rw [hat i (hl2 i hi)]; exact (hf i (hl2 i hi)).2.2.1
    · rw [hat i (hl2 i hi)]; exact (hf i (hl2 i hi)).2.2.2
end Go.Proofs.Qxb6603539a.Ds

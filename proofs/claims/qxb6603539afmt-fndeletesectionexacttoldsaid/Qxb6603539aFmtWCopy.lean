/-
  'copy' between two parts of one row of lines (three cells a line), as a step of a region that draws its order.
-/
import Derived.Test.Qxb6603539aFmtLines
import Derived.Laws.CopyOwn
namespace Go.Proofs.Qxb6603539aFmt.Ds
open Go.RowKit

/-- The row behind the copy. -/
def spl (L : List Ln) (off : Nat) (cs : List Ln) : List Ln := L.take off ++ cs ++ L.drop (off + cs.length)
theorem spl_length (L : List Ln) (off : Nat) (cs : List Ln) (h : off + cs.length ≤ L.length) : (spl L off cs).length = L.length := by simp [spl]; omega
theorem spl_nil (L : List Ln) (off : Nat) : spl L off [] = L := by simp [spl]
theorem spl_flat (L : List Ln) (off : Nat) (cs : List Ln) : (flat L).take (off * 3) ++ flat cs ++ (flat L).drop (off * 3 + (flat cs).length) = flat (spl L off cs) := by
  rw [flat_length, flat_take, show off * 3 + cs.length * 3 = (off + cs.length) * 3 by omega, flat_drop, spl, flat_append, flat_append]

set_option linter.unusedSimpArgs false in
theorem step_copy_lines {P : Program} {ops : Array Oper} {o : Oper} {a : Act} {w : World} {K : Act → World → Prop} {Q : Exit → Act → World → Prop} {E : Prop} (hgd : o.guard = none) (d s : Operand)
    (ho : o.op = .call { callee := .builtin .copy, args := #[d, s], argTypes := #[27, 27] }) (hu : P.underlying 27 = some (.slice 42)) (hsz : (P.info? 42).map (·.size) = some 3)
    (dp sp : Option Addr) (dLen dCap sLen sCap : Nat) (hd : a.eval d = .slice dp dLen dCap) (hs : a.eval s = .slice sp sLen sCap)
    (g off q : Nat) (L cs : List Ln) (hg : 0 < cs.length → Holds w g L) (hn : cs.length = Nat.min sLen dLen)
    (hpos : 0 < cs.length → dp = some ⟨g, off * 3, none⟩ ∧ sp = some ⟨g, q * 3, none⟩)
    (hcs : cs = (L.drop q).take cs.length) (hfit : off + cs.length ≤ L.length)
    (h : ∀ w', Hid (0 < cs.length → Holds w' g (spl L off cs)) → Hid (cs.length = 0 → w' = w) → w.grownBy w' (some g) → K (a.put o.dst (goInt cs.length)) w') :
    if Region.wanted o (yielded ops a.tmps) = true then Oper.wp P o a w K Q else E := by
  have hw : Region.wanted o (yielded ops a.tmps) = true := by simp [Region.wanted, hgd]
  rw [if_pos hw]
  obtain ⟨i, hi, hi3⟩ : ∃ i, P.info? 42 = some i ∧ i.size = 3 := by
    obtain ⟨i, hi, h3⟩ := Option.map_eq_some_iff.1 hsz
    exact ⟨i, hi, h3⟩
  by_cases h0 : cs.length = 0
  · have hrun : (Builtin.copy_ #[27, 27] o.type #[.slice dp dLen dCap, .slice sp sLen sCap]).run P w = .ok (goInt 0) w := by
      have hm : Nat.min sLen dLen = 0 := by omega
      cases dp with
      | none => cases sp <;> simp [Builtin.copy_, run_underlying hu, Builtin.lenOf, Builtin.firstCells, sizeOf, typeInfo, hi, hm, loadCells, loadCellsFrom]
      | some x => cases sp <;> simp [Builtin.copy_, run_underlying hu, Builtin.lenOf, Builtin.firstCells, sizeOf, typeInfo, hi, hm, loadCells, loadCellsFrom, storeCells]
    unfold Oper.wp
    simp [execOp, ho, resolve, invoke, builtin, hd, hs, hrun, Result.andThen]
    have := h w (fun hp => by omega) (fun _ => rfl) (World.grownBy.refl _ _)
    rw [h0] at this
    exact this
  · obtain ⟨rfl, rfl⟩ := hpos (by omega)
    have hg' := hg (by omega)
    have hsrc : ∀ j v, (flat cs)[j]? = some v → w.cell? ((⟨g, q * 3, none⟩ : Addr).add j) = some v := by
      intro j v hj
      have hjl : j < (flat cs).length := (List.getElem?_eq_some_iff.1 hj).1
      rw [Addr.add_lit, cell_of_row w g _ _ _ _ hg']
      have e : flat cs = ((flat L).drop (q * 3)).take (cs.length * 3) := by
        rw [flat_drop, flat_take, ← hcs]
      rw [e, List.getElem?_take, if_pos (by rw [flat_length] at hjl; exact hjl), List.getElem?_drop] at hj
      simpa using hj
    have hl := run_loadCells_list (P := P) w ⟨g, q * 3, none⟩ (flat cs) hsrc
    have hst := run_storeCells_at P g (off * 3) 42 (flat cs) 0 (flat L).toArray w hg' (by simp [flat_length]; omega) (flat_one cs)
    have hrun : (Builtin.copy_ #[27, 27] o.type #[.slice (some ⟨g, off * 3, none⟩) dLen dCap, .slice (some ⟨g, q * 3, none⟩) sLen sCap]).run P w = .ok (goInt cs.length) (w.setRow g (flat (spl L off cs)).toArray) := by
      rw [flat_length] at hl
      rw [Nat.add_zero] at hst
      have e := spl_flat L off cs
      simp only [] at hst
      rw [e] at hst
      simp [Builtin.copy_, run_underlying hu, Builtin.lenOf, Builtin.firstCells, sizeOf, typeInfo, hi, hi3, ← hn, hl, hst]
    unfold Oper.wp
    simp [execOp, ho, resolve, invoke, builtin, hd, hs, hrun, Result.andThen]
    refine h _ (fun _ => setRow_heap w g _ _ 42 _ hg') (fun h => by omega) ⟨rfl, rfl, rfl, by simp [World.setRow], fun k _ hk => setRow_other w g k _ (fun e => hk (by rw [e]))⟩

#print axioms step_copy_lines
end Go.Proofs.Qxb6603539aFmt.Ds

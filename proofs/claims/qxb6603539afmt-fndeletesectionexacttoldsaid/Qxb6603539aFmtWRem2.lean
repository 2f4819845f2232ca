import Derived.Test.Qxb6603539aFmtWRem
namespace Go.Proofs.Qxb6603539aFmt.Ds
open Go.RowKit

set_option maxHeartbeats 4000000 in
set_option maxRecDepth 100000 in
theorem remove_nil (m rcap : Nat) (rp : Option Addr) (bom : Bool) (w : World) (hm : w.heap[m]? = some (.cells #[.bool bom, .slice none 0 0] 30 (0, 0))) :
    Calls Tryf.prog 21 #[.pointer (some ⟨m, 0, none⟩), .slice rp 0 rcap] w fun e w' => e = .returned (.tuple #[]) ∧ w'.heap[m]? = some (.cells #[.bool bom, .slice none 0 0] 30 (0, 0)) ∧ Oth (fun k => k = m) w w' := by
  have cm : w.cell? ⟨m, 1, none⟩ = some (.slice none 0 0) := by rw [cell_of_row w m 1 _ _ _ hm]; rfl
  have fm : w.frozen? ⟨m, 1, none⟩ = false := frozen_of_row w m 1 _ _ hm
  have HM := hide hm
  clear hm
  go_enter Tryf.func21, Tryf.ntmps21
  go_wp2
  refine wp_loop_rounds 1 ?_
  rw [rounds_succ]
  go_wp2
  go_region_law (refine step_copy_lines rfl (.tmp 40) (.tmp 46) rfl Tryf.underlying27 Tryf.info42 none none 0 0 0 0 (by simp [Act.eval, Act.put]) (by simp [Act.eval, Act.put]) 0 0 0 [] [] (fun h => by simp at h) rfl (fun h => by simp at h) rfl (by simp) ?_; intro w4 H1 H2 hgr; have e4 := H2.out rfl; subst e4; clear H1 H2 hgr)
  all_goals
    go_wp2
    go_end0
    exact ⟨rfl, heap_setCell_same _ m 1 _ _ _ HM.out, ((Oth.refl (fun k => k = m) _).setCell (r := m) rfl _ _).drew⟩
end Go.Proofs.Qxb6603539aFmt.Ds

import Derived.Test.Qxb6604140aWalkA
import Derived.Laws.CopyOwn
import Derived.Lib.SliceRun
namespace Go.Proofs.Qxb6604140a.Cs
open Go.RowKit

theorem Try.info5 : (Try.prog.info? 5).map (fun i => (i.zero, i.size, i.bytes)) = some (some (.int .u8 0), 1, 1) := by kernel_rfl
theorem Try.size5 : (Try.prog.info? 5).map (·.size) = some 1 := by kernel_rfl
theorem q27 (w : World) (a : Option Addr) (n c n' c' : Nat) : (binOp .eql 27 (.slice a n c) (.slice none n' c')).run Try.prog w = .ok (.bool a.isNone) w := Lib.run_eql_slice_nil w _ _ a n c n' c' Try.underlying27

theorem clone_nil (n c : Nat) (w : World) : Calls Try.prog 15 #[.slice none n c] w fun e w' => e = .returned (.slice none 0 0) ∧ w' = w := by
  have q27 := q27
  go_enter Try.func15, Try.ntmps15
  go_wp2
  go_ret
  exact ⟨rfl, rfl⟩

theorem own_row {w : World} {base e g n : Nat} {xs : List Value} (h : w.ownsRow base e 1 (.slice (some ⟨g, 0, none⟩) n n) n xs) : w.heap[g]? = some (.cells xs.toArray e (0, 0)) := by
  rcases h.2 with ⟨h1, _⟩ | ⟨g', cap, cur, h1, _, h3, _, _, h6, h7⟩
  · cases h1
  · obtain ⟨h1, _, rfl⟩ := Value.slice.inj h1
    cases h1
    rw [List.take_of_length_le (by rw [Array.length_toList, h6]; exact Nat.le_refl _)] at h7
    rw [h3, ← h7]
theorem splice_all {L cs : List Value} (h : cs.length = L.length) : splice L 0 cs = cs := by
  unfold splice
  rw [List.take_zero, List.nil_append, Nat.zero_add, h, List.drop_length, List.append_nil]

set_option maxHeartbeats 1000000 in
theorem clone_any (x : Addr) (n c : Nat) (xs : List Int) (w : World) (hx : xs.length = n) (hn : n ≤ 1048576) (hbB : 0 < n → x.block < w.heap.size) (hc : ∀ i, i < n → w.cell? (x.add i) = some (.int .u8 (xs.getD i 0))) :
    Calls Try.prog 15 #[.slice (some x) n c] w fun e w' => e = .returned (.slice (some ⟨w.heap.size, 0, none⟩) n n) ∧ w'.heap[w.heap.size]? = some (.cells (xs.map (Value.int .u8)).toArray 5 (0, 0)) ∧ Below w.heap.size w w' := by
  have q27 := q27
  obtain ⟨i0, hi, hz0, hz1, hz2⟩ := info_parts Try.info5
  obtain ⟨cs, hcs⟩ : ∃ cs, xs.map (Value.int .u8) = cs := ⟨_, rfl⟩
  have hcl : cs.length = n := by rw [← hcs]; simpa using hx
  have hsrc : ∀ j v, cs[j]? = some v → w.cell? (x.add j) = some v := fun j v hj => by
    have hlt : j < n := by have := (List.getElem?_eq_some_iff.1 hj).1; omega
    rw [hc j hlt, ← hj, ← hcs]
    simp [List.getD, show j < xs.length by omega]
  have h1c : ∀ v ∈ cs, v.oneCell' = true := fun v hv => by
    rw [← hcs] at hv
    obtain ⟨a, _, rfl⟩ := List.mem_map.1 hv
    rfl
  have add_block : ∀ k, (x.add k).block = x.block := fun k => by unfold Addr.add; split <;> rfl
  have HSRC := hide hsrc
  have H1C := hide h1c
  have HCS := hide hcs
  have HAB := hide add_block
  clear hsrc h1c hcs add_block hc
  go_enter Try.func15, Try.ntmps15
  go_wp2_with (first | (at_make; refine wpList_make_full _ rfl _ _ 27 rfl w.heap.size 5 i0 (.int .u8 0) 1 Try.underlying27 hi hz0 hz1 _ _ _ _ n rfl rfl (by omega) (by omega) (by rw [hz2]; omega) (by unfold maxLen; omega) (Nat.le_refl _) ?_; intro w1 hown hgrow; have HB1 : Hid (Below w.heap.size w w1) := (Below.refl _ _).grown hgrow (Nat.le_refl _) (fun k h => by cases h); have HO1 := hide hown; have HR1 : Hid (w1.heap[w.heap.size]? = some (.cells (List.replicate n (Value.int .u8 0)).toArray 5 (0, 0))) := (by have := own_row hown; rw [show (Value.int IntKind.u8 0).cells = #[.int .u8 0] from rfl, Nat.mul_one, toList_madeCells_one] at this; exact this); clear hown hgrow HO1) | (refine wpList_copy_splice rfl (.tmp 9) (.tmp 10) 27 27 rfl 5 Try.underlying27 Try.size5 (some ⟨w.heap.size, 0, none⟩) (some x) n n n c rfl rfl w.heap.size 0 (List.replicate n (.int .u8 0)) 5 HR1.out cs (by rw [hcl]; exact (Nat.min_self n).symm) (fun h => ⟨rfl, x, rfl, fun j v hj => (HB1.out.cell (by rw [HAB.out]; exact hbB (by omega))).trans (HSRC.out j v hj)⟩) (by rw [List.length_replicate]; omega) H1C.out w.heap.size w HB1.out (Nat.le_refl _) ?_; intro w2 HR2 HB2))
  go_ret
  exact ⟨rfl, by rw [HCS.out]; have := HR2.out; rw [splice_all (by rw [hcl, List.length_replicate])] at this; exact this, HB2⟩
end Go.Proofs.Qxb6604140a.Cs

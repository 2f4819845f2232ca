import Derived.Test.Qxb6603539aProg
import Derived.Test.Qxb6603539aRange
import Derived.Test.Qxb6603539aLines
import Derived.Test.Qxb6603539aWLine
import Derived.RangeFuncNested
import Derived.RangeFuncBound
import Derived.RangeFuncCalls
import Derived.RangeFuncLeaves
import Derived.WalkKit
import Derived.WalkSpells
import Derived.OwnWalkIn
import Derived.TacticsInMore
import Derived.LoopNIn
import Derived.LoopIn
import Derived.Stop.RegionWithIn
namespace Go.Proofs.Qxb6603539a.Ds
open Go.RowKit
attribute [local go_sem] Oper.semAt_some

/-- The element types of the blocks that the iterators read. -/
def envT (t : TypeId) : Prop := t = 94 ∨ t = 38 ∨ t = 31 ∨ t = 27 ∨ t = 51 ∨ t = 112
/-- What a round keeps: every block of cells of those types. -/
structure Kp (W W' : World) : Prop where
  size : W.heap.size ≤ W'.heap.size
  same : ∀ (k : Nat) (c : Array Value) (t : TypeId) (fr : Nat × Nat), W.heap[k]? = some (.cells c t fr) → envT t → W'.heap[k]? = some (.cells c t fr)

def ownT (t : TypeId) : Prop := t = 94
def encP (x : Part) : Array Value := #[.agg #[.string x.nm, .int .i64 x.h, .int .i64 x.e]]

/-- What the iterator knows of memory when k lines have been read: its part lies in block Pb. -/
structure It (Pb m b k0 cap B2 : Nat) (ao : Option Addr) (bom : Bool) (L ls : List Ln) (k : Nat) (W : World) : Prop where
  hp : ∃ e : Int, W.heap[Pb]? = some (.cells #[.string (stp ls k).1, .int .i64 (stp ls k).2.1, .int .i64 e] 94 (0, 0))
  hl : LV W b k0 cap ao L
  hm : W.heap[m]? = some (.cells #[.bool bom, .slice ao k0 cap] 31 (0, 0))
  hf : W.heap[B2]? = some (.cells #[.pointer (some ⟨m, 0, none⟩)] 27 (0, 0))

section
variable {Pb m b k0 cap B2 : Nat} {ao : Option Addr} {bom : Bool} {L ls : List Ln} {k : Nat} {W W' : World}
theorem lt_of_some {h : Array Obj} {i : Nat} {o : Obj} (e : h[i]? = some o) : i < h.size := (Array.getElem?_eq_some_iff.1 e).1
/-- What keeps blocks of cells of the iterator's types keeps its word. -/
theorem It.keep (h : It Pb m b k0 cap B2 ao bom L ls k W) (hk : ∀ (j : Nat) (c : Array Value) (t : TypeId) (fr : Nat × Nat), W.heap[j]? = some (.cells c t fr) → (t = 94 ∨ t = 38 ∨ t = 31 ∨ t = 27) → W'.heap[j]? = some (.cells c t fr)) : It Pb m b k0 cap B2 ao bom L ls k W' := by
  obtain ⟨⟨e, h1⟩, h2, h3, h4⟩ := h
  exact ⟨⟨e, hk _ _ _ _ h1 (by simp)⟩, h2.kept (fun x => hk _ _ _ _ x (by simp)), hk _ _ _ _ h3 (by simp), hk _ _ _ _ h4 (by simp)⟩
theorem It.alloc (h : It Pb m b k0 cap B2 ao bom L ls k W) (o : Obj) : It Pb m b k0 cap B2 ao bom L ls k (W.alloc o) :=
  h.keep fun _ _ _ _ hj _ => (Below.heap_alloc _ _ _ (lt_of_some hj)).trans hj
theorem It.drew (h : It Pb m b k0 cap B2 ao bom L ls k W) : It Pb m b k0 cap B2 ao bom L ls k W.drew := h.keep fun _ _ _ _ hj _ => hj
theorem It.kp (h : It Pb m b k0 cap B2 ao bom L ls k W) (hk : Kp W W') : It Pb m b k0 cap B2 ao bom L ls k W' :=
  h.keep fun _ _ _ _ hj ht => hk.same _ _ _ _ hj (by unfold envT; rcases ht with rfl | rfl | rfl | rfl <;> simp)
theorem It.c2 (h : It Pb m b k0 cap B2 ao bom L ls k W) : W.cell? ⟨B2, 0, none⟩ = some (.pointer (some ⟨m, 0, none⟩)) := by rw [cell_of_row W B2 0 _ _ _ h.hf]; rfl
theorem It.parts (h : It Pb m b k0 cap B2 ao bom L ls k W) {nm : ByteArray} {hd : Int} {op : Bool} (hst : stp ls k = (nm, hd, op)) : ∃ e : Int, W.heap[Pb]? = some (.cells #[.string nm, .int .i64 hd, .int .i64 e] 94 (0, 0)) := by
  have := h.hp; rwa [hst] at this
/-- A store into the part's block, of a new end. -/
theorem It.end (h : It Pb m b k0 cap B2 ao bom L ls k W) (x : Int) : It Pb m b k0 cap B2 ao bom L ls k (W.setCell ⟨Pb, 2, none⟩ (.int .i64 x)) := by
  obtain ⟨⟨e, h1⟩, h2', h3, h4⟩ := h
  have o : ∀ j, j ≠ Pb → (W.setCell ⟨Pb, 2, none⟩ (.int .i64 x)).heap[j]? = W.heap[j]? := fun j hj => Below.heap_setCell _ _ _ _ hj
  exact ⟨⟨x, heap_setCell_same W Pb 2 _ _ _ h1⟩, h2'.kept (fun y => (o _ (fun e => by subst e; rw [h1] at y; simp at y)).trans y), (o _ (fun e => by subst e; rw [h1] at h3; simp at h3)).trans h3, (o _ (fun e => by subst e; rw [h1] at h4; simp at h4)).trans h4⟩
/-- A new part is stored. -/
theorem It.put (h : It Pb m b k0 cap B2 ao bom L ls k W) {nm : ByteArray} {hd : Int} {op : Bool} (hst : stp ls (k + 1) = (nm, hd, op)) :
    It Pb m b k0 cap B2 ao bom L ls (k + 1) (((W.setCell ⟨Pb, 0, none⟩ (.string nm)).setCell ⟨Pb, 1, none⟩ (.int .i64 hd)).setCell ⟨Pb, 2, none⟩ (.int .i64 0)) := by
  obtain ⟨⟨e, h1⟩, h2', h3, h4⟩ := h
  have a1 := heap_setCell_same W Pb 0 _ _ (.string nm) h1
  have a2 := heap_setCell_same _ Pb 1 _ _ (.int .i64 hd) a1
  have a3 := heap_setCell_same _ Pb 2 _ _ (.int .i64 0) a2
  have o : ∀ j, j ≠ Pb → (((W.setCell ⟨Pb, 0, none⟩ (.string nm)).setCell ⟨Pb, 1, none⟩ (.int .i64 hd)).setCell ⟨Pb, 2, none⟩ (.int .i64 0)).heap[j]? = W.heap[j]? := fun j hj => by
    rw [Below.heap_setCell _ _ _ _ hj, Below.heap_setCell _ _ _ _ hj, Below.heap_setCell _ _ _ _ hj]
  exact ⟨⟨0, by rw [hst]; exact a3⟩, h2'.kept (fun y => (o _ (fun e => by subst e; rw [h1] at y; simp at y)).trans y), (o _ (fun e => by subst e; rw [h1] at h3; simp at h3)).trans h3, (o _ (fun e => by subst e; rw [h1] at h4; simp at h4)).trans h4⟩
theorem It.on (h : It Pb m b k0 cap B2 ao bom L ls k W) (hst : stp ls (k + 1) = stp ls k) : It Pb m b k0 cap B2 ao bom L ls (k + 1) W := by
  obtain ⟨h1, h2', h3, h4⟩ := h
  exact ⟨by rw [hst]; exact h1, h2', h3, h4⟩
/-- The iterator's stores into its part, to the caller's invariant. -/
theorem bears_put {J : List Part → World → Prop} {N0 : Nat} (hJ : Bears ownT N0 J) {s : List Part} {e : Int} {nm0 : ByteArray} {hd0 : Int} (h : J s W) (hN : N0 ≤ Pb) (h1 : W.heap[Pb]? = some (.cells #[.string nm0, .int .i64 hd0, .int .i64 e] 94 (0, 0))) (nm : ByteArray) (hd : Int) :
    J s (((W.setCell ⟨Pb, 0, none⟩ (.string nm)).setCell ⟨Pb, 1, none⟩ (.int .i64 hd)).setCell ⟨Pb, 2, none⟩ (.int .i64 0)) := by
  have a1 := heap_setCell_same W Pb 0 _ _ (.string nm) h1
  have a2 := heap_setCell_same _ Pb 1 _ _ (.int .i64 hd) a1
  exact hJ.cell _ _ _ _ _ _ _ _ (hJ.cell _ _ _ _ _ _ _ _ (hJ.cell _ _ _ _ _ _ _ _ h hN h1 rfl) hN a1 rfl) hN a2 rfl
theorem It.cm (h : It Pb m b k0 cap B2 ao bom L ls k W) : W.cell? ⟨m, 1, none⟩ = some (.slice ao k0 cap) := by rw [cell_of_row W m 1 _ _ _ h.hm]; rfl
end

set_option maxHeartbeats 4000000 in
set_option maxRecDepth 100000 in
theorem parts_gives (n : Nat) (hn : 1 ≤ n) (m b k0 cap B2 : Nat) (ao : Option Addr) (bom : Bool) (L : List Ln) (w : World)
    (hL : LV w b k0 cap ao L) (hm : w.heap[m]? = some (.cells #[.bool bom, .slice ao k0 cap] 31 (0, 0))) (h2 : w.heap[B2]? = some (.cells #[.pointer (some ⟨m, 0, none⟩)] 27 (0, 0)))
    (hk0 : k0 ≤ 1048576) (hsound : ∀ i, i < k0 → (at' (L.take k0) i).k = 2 → ind (at' (L.take k0) i).t < (at' (L.take k0) i).t.size) (htx : ∀ i, i < k0 → (at' (L.take k0) i).t.size ≤ maxLen) :
    Gives Fence.wide n Try.prog 59 #[.pointer (some ⟨B2, 0, none⟩)] encP ownT Kp (allParts (L.take k0)) w := by
  intro l J W hbel hJ hY hJ0
  obtain ⟨ls, hls⟩ : ∃ ls, L.take k0 = ls := ⟨_, rfl⟩
  have hlen : ls.length = k0 := by rw [← hls]; exact hL.len.1
  have hItW : It W.heap.size m b k0 cap B2 ao bom L ls 0 (W.alloc (.cells #[.string ByteArray.empty, .int .i64 (-1), .int .i64 0] 94)) := by
    have hold : ∀ (j : Nat) (o : Obj), w.heap[j]? = some o → (W.alloc (.cells #[.string ByteArray.empty, .int .i64 (-1), .int .i64 0] 94)).heap[j]? = some o := fun j o hj => by
      have hlt := lt_of_some hj
      rw [Below.heap_alloc _ _ _ (by have := hbel.size; omega), hbel.block j hlt]; exact hj
    exact ⟨⟨0, heap_alloc_new _ _⟩, hL.kept (fun x => hold _ _ x), hold _ _ hm, hold _ _ h2⟩
  have hB2 : B2 < W.heap.size := by have := hbel.size; have := lt_of_some h2; omega
  have hmW : m < W.heap.size := by have := hbel.size; have := lt_of_some hm; omega
  have HItW := hide hItW
  have HJW := hide (hJ.alloc [] W (.cells #[.string ByteArray.empty, .int .i64 (-1), .int .i64 0] 94) hJ0)
  have c2 : W.cell? ⟨B2, 0, none⟩ = some (.pointer (some ⟨m, 0, none⟩)) := by
    have := hItW.c2; rwa [World.cell?_alloc_past _ _ _ (by exact hB2)] at this
  have cm : W.cell? ⟨m, 1, none⟩ = some (.slice ao k0 cap) := by
    have := hItW.cm; rwa [World.cell?_alloc_past _ _ _ (by exact hmW)] at this
  rw [hls] at hsound htx hY ⊢
  clear hItW hbel hL hm h2 hJ0 
  have HS := hide hsound
  have HT := hide htx
  have HY := hide hY
  have HJ := hide hJ
  clear hsound htx hY hJ
  refine callsIn_of_wp Try.func59 rfl trivial ?_ rfl
  simp only [Try.ntmps59, List.size_toArray, List.length_cons, List.length_nil, Nat.reduceAdd, Nat.reduceSub, Array.replicate_succ, Array.replicate_zero, List.push_toArray, List.append_toArray, List.nil_append, List.cons_append]
  gi_wp2
  clear c2 cm
  gi_loopw [4, 13] (fun o t wr => ∃ k : Nat, k ≤ k0 ∧ t = .int .i64 k ∧ o = .bool (stp ls k).2.2 ∧ Hid (It W.heap.size m b k0 cap B2 ao bom L ls k wr) ∧ Hid (J (prts ls k) wr)) (fun _ t _ => k0 - (intOf t).toNat)
  case atStart => exact ⟨0, Nat.zero_le _, rfl, rfl, HItW, HJW⟩
  case round =>
    obtain ⟨k, hk, rfl, rfl, HI, HJk⟩ := hrel
    clear HItW HJW
    obtain ⟨nm, hd, op, hst⟩ : ∃ nm hd op, stp ls k = (nm, hd, op) := ⟨_, _, _, rfl⟩
    have HST := hide hst
    rw [show (stp ls k).2.2 = op by rw [hst]]
    clear hst
    by_cases hlt : k < k0
    · obtain ⟨tx, kd, en, hln⟩ : ∃ tx kd en, at' ls k = ⟨tx, kd, en⟩ := ⟨_, _, _, rfl⟩
      have hLs := HI.out.hl.lies
      rw [hls] at hLs
      obtain rfl := hLs.ao (by omega)
      have l0 := hLs.c0 k (by omega)
      have l1 := hLs.c1 k (by omega)
      have l2 := hLs.c2 k (by omega)
      rw [hln] at l0 l1 l2
      have htl := HT.out k hlt
      rw [hln] at htl
      have hsd := HS.out k hlt
      rw [hln] at hsd
      have HLN := hide hln
      have HSD := hide hsd
      have HTL := hide htl
      clear hLs hln htl hsd
      by_cases hkd : kd = 2 ∨ kd = 5
      · rcases hkd with rfl | rfl
        · -- kind 2
          have HNM : Hid (∀ W, CallsIn Fence.wide (n - 1) Try.prog 60 #[.agg #[.string tx, .int .u8 2, .int .u8 en]] W fun r w' => r = .returned (.string (nameOf tx)) ∧ w' = ((W.alloc (.cells #[.string tx, .int .u8 2, .int .u8 en] 38)).alloc (.cells #[.string tx, .int .u8 2, .int .u8 en] 38)).drew) := fun W => callsIn_wide.2 (lineName_yes tx en W HTL.out (HSD.out rfl))
          have HN : Hid (stp ls (k + 1) = (nameOf tx, (k : Int), true)) := by rw [Hid, stp_head (by rw [HLN.out]), HLN.out]
          cases op with
          | false =>
            have HP : Hid (prts ls (k + 1) = prts ls k) := prts_on (by rw [HST.out]; simp)
            obtain ⟨e, hpe⟩ := HI.out.parts HST.out
            have p0 : wr.cell? ⟨W.heap.size, 0, none⟩ = some (.string nm) := by rw [cell_of_row wr _ 0 _ _ _ hpe]; rfl
            have p1 : wr.cell? ⟨W.heap.size, 1, none⟩ = some (.int .i64 hd) := by rw [cell_of_row wr _ 1 _ _ _ hpe]; rfl
            have p2 : wr.cell? ⟨W.heap.size, 2, none⟩ = some (.int .i64 e) := by rw [cell_of_row wr _ 2 _ _ _ hpe]; rfl
            have f0 : wr.frozen? ⟨W.heap.size, 0, none⟩ = false := frozen_of_row wr _ 0 _ _ hpe
            have f1 : wr.frozen? ⟨W.heap.size, 1, none⟩ = false := frozen_of_row wr _ 1 _ _ hpe
            have f2 : wr.frozen? ⟨W.heap.size, 2, none⟩ = false := frozen_of_row wr _ 2 _ _ hpe
            have hpl : W.heap.size < wr.heap.size := lt_of_some hpe
            have hpl1 : W.heap.size < wr.heap.size + 1 := by omega
            have hpl2 : W.heap.size < wr.heap.size + 1 + 1 := by omega
            have hpl3 : W.heap.size < wr.heap.size + 1 + 1 + 1 := by omega
            have hpl4 : W.heap.size < wr.heap.size + 2 := by omega
            have HPE := hide hpe
            clear hpe
            gi_wp2
            gi_region_with (refine ⟨trivial, ?_⟩; gi_at_call 60; refine (HNM.out _).mono ?_; rintro e w' ⟨rfl, rfl⟩)
            all_goals
              gi_wp2
              go_roundw
              case rel => exact ⟨k + 1, by omega, by go_num, by rw [HN.out], (((((HI.out.put HN.out).alloc _).alloc _).alloc _).drew).drew, by rw [Hid, HP.out]; exact HJ.out.drew _ _ (HJ.out.drew _ _ (HJ.out.alloc _ _ _ (HJ.out.alloc _ _ _ (HJ.out.alloc _ _ _ (bears_put HJ.out HJk.out (Nat.le_refl _) HPE.out _ _)))))⟩
              case measure => simp [intOf]; omega
          | true =>
            have HP : Hid (prts ls (k + 1) = prts ls k ++ [⟨nm, hd, (k : Int)⟩]) := by
              have := prts_yield (ls := ls) (i := k) (by rw [HLN.out]; exact Or.inl rfl) (by rw [HST.out])
              rw [Hid, this, HST.out]
            obtain ⟨e, hpe⟩ := HI.out.parts HST.out
            have p0 : wr.cell? ⟨W.heap.size, 0, none⟩ = some (.string nm) := by rw [cell_of_row wr _ 0 _ _ _ hpe]; rfl
            have p1 : wr.cell? ⟨W.heap.size, 1, none⟩ = some (.int .i64 hd) := by rw [cell_of_row wr _ 1 _ _ _ hpe]; rfl
            have p2 : wr.cell? ⟨W.heap.size, 2, none⟩ = some (.int .i64 e) := by rw [cell_of_row wr _ 2 _ _ _ hpe]; rfl
            have f0 : wr.frozen? ⟨W.heap.size, 0, none⟩ = false := frozen_of_row wr _ 0 _ _ hpe
            have f1 : wr.frozen? ⟨W.heap.size, 1, none⟩ = false := frozen_of_row wr _ 1 _ _ hpe
            have f2 : wr.frozen? ⟨W.heap.size, 2, none⟩ = false := frozen_of_row wr _ 2 _ _ hpe
            have hpl : W.heap.size < wr.heap.size := lt_of_some hpe
            have hpl1 : W.heap.size < wr.heap.size + 1 := by omega
            have hpl2 : W.heap.size < wr.heap.size + 1 + 1 := by omega
            have hpl3 : W.heap.size < wr.heap.size + 1 + 1 + 1 := by omega
            have hpl4 : W.heap.size < wr.heap.size + 2 := by omega
            have hal : (wr.alloc (.cells #[.string tx, .int .u8 2, .int .u8 en] 38)).heap[W.heap.size]? = some (.cells #[.string nm, .int .i64 hd, .int .i64 e] 94 (0, 0)) := (Below.heap_alloc _ _ _ hpl).trans hpe
            have hsw : (wr.alloc (.cells #[.string tx, .int .u8 2, .int .u8 en] 38)).setCell ⟨W.heap.size, 2, none⟩ (.int .i64 k) = (wr.setCell ⟨W.heap.size, 2, none⟩ (.int .i64 k)).alloc (.cells #[.string tx, .int .u8 2, .int .u8 en] 38) := by rw [World.setCell_alloc_past _ _ _ _ hpl]
            have hJ' := HJ.out.cell _ _ _ _ _ _ 2 (.int .i64 k) (HJ.out.alloc _ _ (.cells #[.string tx, .int .u8 2, .int .u8 en] 38) HJk.out) (Nat.le_refl _) hal rfl
            have hI' := (HI.out.alloc (.cells #[.string tx, .int .u8 2, .int .u8 en] 38)).end (k : Int)
            have hlb : ((wr.alloc (.cells #[.string tx, .int .u8 2, .int .u8 en] 38)).setCell ⟨W.heap.size, 2, none⟩ (.int .i64 k)).heap[wr.heap.size]? = some (.cells #[.string tx, .int .u8 2, .int .u8 en] 38 (0, 0)) := by
              rw [Below.heap_setCell _ _ _ _ (by show wr.heap.size ≠ W.heap.size; omega)]; exact heap_alloc_new _ _
            obtain ⟨fn, tmps, assign, body, hy, hR⟩ := HY.out (prts ls k) ⟨nm, hd, (k : Int)⟩ _ hJ' (by rw [← HP.out]; exact prts_all ls (k + 1) (by omega))
            dsimp only [encP] at hy
            rw [hsw] at hy hR hI' hlb
            have HR := hide hR
            have HI' := hide hI'
            have HLB := hide hlb
            have HPE := hide hpe
            clear hpe hR hJ' hal hsw hI' hlb
            gi_wp2
            refine HR.out.mono ?_
            rintro e' W3 ⟨rfl, hJ3, hk3, -⟩
            have HJ3 := hide hJ3
            have HI3 := hide (HI'.out.kp hk3)
            have hne1 : ¬ wr.heap.size = W.heap.size := by omega
            have hne2 : ¬ W.heap.size = wr.heap.size := by omega
            have hlb3 := hk3.same _ _ _ _ HLB.out (by unfold envT; simp)
            clear hJ3 hk3 p0 p1 p2 f0 f1 f2 hpl hpl1 hpl2 hpl3 hpl4 hy HPE l0 l1 l2
            have q0 : W3.cell? ⟨wr.heap.size, 0, none⟩ = some (.string tx) := by rw [cell_of_row W3 _ 0 _ _ _ hlb3]; rfl
            have q1 : W3.cell? ⟨wr.heap.size, 1, none⟩ = some (.int .u8 2) := by rw [cell_of_row W3 _ 1 _ _ _ hlb3]; rfl
            have q2 : W3.cell? ⟨wr.heap.size, 2, none⟩ = some (.int .u8 en) := by rw [cell_of_row W3 _ 2 _ _ _ hlb3]; rfl
            have hql : wr.heap.size < W3.heap.size := lt_of_some hlb3
            have hql1 : wr.heap.size < W3.heap.size + 1 := by omega
            have hql2 : wr.heap.size < W3.heap.size + 1 + 1 := by omega
            have hql3 : wr.heap.size < W3.heap.size + 2 := by omega
            clear hlb3
            obtain ⟨e, hpe⟩ := HI3.out.parts HST.out
            have p0 : W3.cell? ⟨W.heap.size, 0, none⟩ = some (.string nm) := by rw [cell_of_row W3 _ 0 _ _ _ hpe]; rfl
            have p1 : W3.cell? ⟨W.heap.size, 1, none⟩ = some (.int .i64 hd) := by rw [cell_of_row W3 _ 1 _ _ _ hpe]; rfl
            have p2 : W3.cell? ⟨W.heap.size, 2, none⟩ = some (.int .i64 e) := by rw [cell_of_row W3 _ 2 _ _ _ hpe]; rfl
            have f0 : W3.frozen? ⟨W.heap.size, 0, none⟩ = false := frozen_of_row W3 _ 0 _ _ hpe
            have f1 : W3.frozen? ⟨W.heap.size, 1, none⟩ = false := frozen_of_row W3 _ 1 _ _ hpe
            have f2 : W3.frozen? ⟨W.heap.size, 2, none⟩ = false := frozen_of_row W3 _ 2 _ _ hpe
            have hpl : W.heap.size < W3.heap.size := lt_of_some hpe
            have hpl1 : W.heap.size < W3.heap.size + 1 := by omega
            have hpl2 : W.heap.size < W3.heap.size + 1 + 1 := by omega
            have hpl3 : W.heap.size < W3.heap.size + 1 + 1 + 1 := by omega
            have hpl4 : W.heap.size < W3.heap.size + 2 := by omega
            have HPE := hide hpe
            clear hpe
            gi_wp2
            gi_region_with (refine ⟨trivial, ?_⟩; gi_at_call 60; refine (HNM.out _).mono ?_; rintro e w' ⟨rfl, rfl⟩)
            all_goals
              gi_wp2
              go_roundw
              case rel => exact ⟨k + 1, by omega, by go_num, by rw [HN.out], ((((HI3.out.put HN.out).alloc _).alloc _).drew).drew, by rw [Hid, HP.out]; exact HJ.out.drew _ _ (HJ.out.drew _ _ (HJ.out.alloc _ _ _ (HJ.out.alloc _ _ _ (bears_put HJ.out HJ3.out (Nat.le_refl _) HPE.out _ _))))⟩
              case measure => simp [intOf]; omega
        · -- kind 5
          have HNM : Hid (∀ W, CallsIn Fence.wide (n - 1) Try.prog 60 #[.agg #[.string tx, .int .u8 5, .int .u8 en]] W fun r w' => r = .returned (.string ByteArray.empty) ∧ w' = W.alloc (.cells #[.string tx, .int .u8 5, .int .u8 en] 38)) := fun W => callsIn_wide.2 (lineName_no tx 5 en W (by decide))
          have HN : Hid (stp ls (k + 1) = (ByteArray.empty, (k : Int), false)) := by rw [Hid, stp_bad (by rw [HLN.out])]
          cases op with
          | false =>
            have HP : Hid (prts ls (k + 1) = prts ls k) := prts_on (by rw [HST.out]; simp)
            obtain ⟨e, hpe⟩ := HI.out.parts HST.out
            have p0 : wr.cell? ⟨W.heap.size, 0, none⟩ = some (.string nm) := by rw [cell_of_row wr _ 0 _ _ _ hpe]; rfl
            have p1 : wr.cell? ⟨W.heap.size, 1, none⟩ = some (.int .i64 hd) := by rw [cell_of_row wr _ 1 _ _ _ hpe]; rfl
            have p2 : wr.cell? ⟨W.heap.size, 2, none⟩ = some (.int .i64 e) := by rw [cell_of_row wr _ 2 _ _ _ hpe]; rfl
            have f0 : wr.frozen? ⟨W.heap.size, 0, none⟩ = false := frozen_of_row wr _ 0 _ _ hpe
            have f1 : wr.frozen? ⟨W.heap.size, 1, none⟩ = false := frozen_of_row wr _ 1 _ _ hpe
            have f2 : wr.frozen? ⟨W.heap.size, 2, none⟩ = false := frozen_of_row wr _ 2 _ _ hpe
            have hpl : W.heap.size < wr.heap.size := lt_of_some hpe
            have hpl1 : W.heap.size < wr.heap.size + 1 := by omega
            have hpl2 : W.heap.size < wr.heap.size + 1 + 1 := by omega
            have hpl3 : W.heap.size < wr.heap.size + 1 + 1 + 1 := by omega
            have hpl4 : W.heap.size < wr.heap.size + 2 := by omega
            have HPE := hide hpe
            clear hpe
            gi_wp2
            gi_region_with (refine ⟨trivial, ?_⟩; gi_at_call 60; refine (HNM.out _).mono ?_; rintro e w' ⟨rfl, rfl⟩)
            all_goals
              gi_wp2
              go_roundw
              case rel => exact ⟨k + 1, by omega, by go_num, by rw [HN.out], (((HI.out.put HN.out).alloc _).alloc _).drew, by rw [Hid, HP.out]; exact HJ.out.drew _ _ (HJ.out.alloc _ _ _ (HJ.out.alloc _ _ _ (bears_put HJ.out HJk.out (Nat.le_refl _) HPE.out _ _)))⟩
              case measure => simp [intOf]; omega
          | true =>
            have HP : Hid (prts ls (k + 1) = prts ls k ++ [⟨nm, hd, (k : Int)⟩]) := by
              have := prts_yield (ls := ls) (i := k) (by rw [HLN.out]; exact Or.inr rfl) (by rw [HST.out])
              rw [Hid, this, HST.out]
            obtain ⟨e, hpe⟩ := HI.out.parts HST.out
            have p0 : wr.cell? ⟨W.heap.size, 0, none⟩ = some (.string nm) := by rw [cell_of_row wr _ 0 _ _ _ hpe]; rfl
            have p1 : wr.cell? ⟨W.heap.size, 1, none⟩ = some (.int .i64 hd) := by rw [cell_of_row wr _ 1 _ _ _ hpe]; rfl
            have p2 : wr.cell? ⟨W.heap.size, 2, none⟩ = some (.int .i64 e) := by rw [cell_of_row wr _ 2 _ _ _ hpe]; rfl
            have f0 : wr.frozen? ⟨W.heap.size, 0, none⟩ = false := frozen_of_row wr _ 0 _ _ hpe
            have f1 : wr.frozen? ⟨W.heap.size, 1, none⟩ = false := frozen_of_row wr _ 1 _ _ hpe
            have f2 : wr.frozen? ⟨W.heap.size, 2, none⟩ = false := frozen_of_row wr _ 2 _ _ hpe
            have hpl : W.heap.size < wr.heap.size := lt_of_some hpe
            have hpl1 : W.heap.size < wr.heap.size + 1 := by omega
            have hpl2 : W.heap.size < wr.heap.size + 1 + 1 := by omega
            have hpl3 : W.heap.size < wr.heap.size + 1 + 1 + 1 := by omega
            have hpl4 : W.heap.size < wr.heap.size + 2 := by omega
            have hal : (wr.alloc (.cells #[.string tx, .int .u8 5, .int .u8 en] 38)).heap[W.heap.size]? = some (.cells #[.string nm, .int .i64 hd, .int .i64 e] 94 (0, 0)) := (Below.heap_alloc _ _ _ hpl).trans hpe
            have hsw : (wr.alloc (.cells #[.string tx, .int .u8 5, .int .u8 en] 38)).setCell ⟨W.heap.size, 2, none⟩ (.int .i64 k) = (wr.setCell ⟨W.heap.size, 2, none⟩ (.int .i64 k)).alloc (.cells #[.string tx, .int .u8 5, .int .u8 en] 38) := by rw [World.setCell_alloc_past _ _ _ _ hpl]
            have hJ' := HJ.out.cell _ _ _ _ _ _ 2 (.int .i64 k) (HJ.out.alloc _ _ (.cells #[.string tx, .int .u8 5, .int .u8 en] 38) HJk.out) (Nat.le_refl _) hal rfl
            have hI' := (HI.out.alloc (.cells #[.string tx, .int .u8 5, .int .u8 en] 38)).end (k : Int)
            have hlb : ((wr.alloc (.cells #[.string tx, .int .u8 5, .int .u8 en] 38)).setCell ⟨W.heap.size, 2, none⟩ (.int .i64 k)).heap[wr.heap.size]? = some (.cells #[.string tx, .int .u8 5, .int .u8 en] 38 (0, 0)) := by
              rw [Below.heap_setCell _ _ _ _ (by show wr.heap.size ≠ W.heap.size; omega)]; exact heap_alloc_new _ _
            obtain ⟨fn, tmps, assign, body, hy, hR⟩ := HY.out (prts ls k) ⟨nm, hd, (k : Int)⟩ _ hJ' (by rw [← HP.out]; exact prts_all ls (k + 1) (by omega))
            dsimp only [encP] at hy
            rw [hsw] at hy hR hI' hlb
            have HR := hide hR
            have HI' := hide hI'
            have HLB := hide hlb
            have HPE := hide hpe
            clear hpe hR hJ' hal hsw hI' hlb
            gi_wp2
            refine HR.out.mono ?_
            rintro e' W3 ⟨rfl, hJ3, hk3, -⟩
            have HJ3 := hide hJ3
            have HI3 := hide (HI'.out.kp hk3)
            have hne1 : ¬ wr.heap.size = W.heap.size := by omega
            have hne2 : ¬ W.heap.size = wr.heap.size := by omega
            have hlb3 := hk3.same _ _ _ _ HLB.out (by unfold envT; simp)
            clear hJ3 hk3 p0 p1 p2 f0 f1 f2 hpl hpl1 hpl2 hpl3 hpl4 hy HPE l0 l1 l2
            have q0 : W3.cell? ⟨wr.heap.size, 0, none⟩ = some (.string tx) := by rw [cell_of_row W3 _ 0 _ _ _ hlb3]; rfl
            have q1 : W3.cell? ⟨wr.heap.size, 1, none⟩ = some (.int .u8 5) := by rw [cell_of_row W3 _ 1 _ _ _ hlb3]; rfl
            have q2 : W3.cell? ⟨wr.heap.size, 2, none⟩ = some (.int .u8 en) := by rw [cell_of_row W3 _ 2 _ _ _ hlb3]; rfl
            have hql : wr.heap.size < W3.heap.size := lt_of_some hlb3
            have hql1 : wr.heap.size < W3.heap.size + 1 := by omega
            have hql2 : wr.heap.size < W3.heap.size + 1 + 1 := by omega
            have hql3 : wr.heap.size < W3.heap.size + 2 := by omega
            clear hlb3
            obtain ⟨e, hpe⟩ := HI3.out.parts HST.out
            have p0 : W3.cell? ⟨W.heap.size, 0, none⟩ = some (.string nm) := by rw [cell_of_row W3 _ 0 _ _ _ hpe]; rfl
            have p1 : W3.cell? ⟨W.heap.size, 1, none⟩ = some (.int .i64 hd) := by rw [cell_of_row W3 _ 1 _ _ _ hpe]; rfl
            have p2 : W3.cell? ⟨W.heap.size, 2, none⟩ = some (.int .i64 e) := by rw [cell_of_row W3 _ 2 _ _ _ hpe]; rfl
            have f0 : W3.frozen? ⟨W.heap.size, 0, none⟩ = false := frozen_of_row W3 _ 0 _ _ hpe
            have f1 : W3.frozen? ⟨W.heap.size, 1, none⟩ = false := frozen_of_row W3 _ 1 _ _ hpe
            have f2 : W3.frozen? ⟨W.heap.size, 2, none⟩ = false := frozen_of_row W3 _ 2 _ _ hpe
            have hpl : W.heap.size < W3.heap.size := lt_of_some hpe
            have hpl1 : W.heap.size < W3.heap.size + 1 := by omega
            have hpl2 : W.heap.size < W3.heap.size + 1 + 1 := by omega
            have hpl3 : W.heap.size < W3.heap.size + 1 + 1 + 1 := by omega
            have hpl4 : W.heap.size < W3.heap.size + 2 := by omega
            have HPE := hide hpe
            clear hpe
            gi_wp2
            gi_region_with (refine ⟨trivial, ?_⟩; gi_at_call 60; refine (HNM.out _).mono ?_; rintro e w' ⟨rfl, rfl⟩)
            all_goals
              gi_wp2
              go_roundw
              case rel => exact ⟨k + 1, by omega, by go_num, by rw [HN.out], ((HI3.out.put HN.out).alloc _).drew, by rw [Hid, HP.out]; exact HJ.out.drew _ _ (HJ.out.alloc _ _ _ (bears_put HJ.out HJ3.out (Nat.le_refl _) HPE.out _ _))⟩
              case measure => simp [intOf]; omega
      · have k2 : (kd != 2) = true := by simp; omega
        have k5 : (kd != 5) = true := by simp; omega
        have HN : Hid (stp ls (k + 1) = stp ls k) := stp_on (by rw [HLN.out]; show kd ≠ 2; omega) (by rw [HLN.out]; show kd ≠ 5; omega)
        have HP : Hid (prts ls (k + 1) = prts ls k) := prts_on (by rw [HLN.out]; intro h; exact hkd h.1)
        gi_wp2
        go_roundw
        case rel => exact ⟨k + 1, by omega, by go_num, by rw [HN.out, HST.out], (HI.out.alloc _).on HN.out, by rw [Hid, HP.out]; exact HJ.out.alloc _ _ _ HJk.out⟩
        case measure => simp [intOf]; omega
    · have hke : k = ls.length := by omega
      cases op with
      | true =>
        have HA : Hid (prts ls k ++ [⟨nm, hd, (k0 : Int)⟩] = allParts ls) := by
          have hkk : (k0 : Int) = (k : Int) := by omega
          rw [Hid, allParts, ← hke, HST.out, hkk]; simp
        obtain ⟨e, hpe⟩ := HI.out.parts HST.out
        have c2 := HI.out.c2
        have cm := HI.out.cm
        have p0 : wr.cell? ⟨W.heap.size, 0, none⟩ = some (.string nm) := by rw [cell_of_row wr _ 0 _ _ _ hpe]; rfl
        have p1 : wr.cell? ⟨W.heap.size, 1, none⟩ = some (.int .i64 hd) := by rw [cell_of_row wr _ 1 _ _ _ hpe]; rfl
        have p2 : wr.cell? ⟨W.heap.size, 2, none⟩ = some (.int .i64 e) := by rw [cell_of_row wr _ 2 _ _ _ hpe]; rfl
        have f2 : wr.frozen? ⟨W.heap.size, 2, none⟩ = false := frozen_of_row wr _ 2 _ _ hpe
        have hJ' := HJ.out.cell _ _ _ _ _ _ 2 (.int .i64 k0) HJk.out (Nat.le_refl _) hpe rfl
        obtain ⟨fn, tmps, assign, body, hy, hR⟩ := HY.out (prts ls k) ⟨nm, hd, (k0 : Int)⟩ _ hJ' (by rw [HA.out]; exact List.prefix_refl _)
        dsimp only [encP] at hy
        have HR := hide hR
        clear hpe hR hJ'
        gi_wp2
        refine HR.out.mono ?_
        rintro e W3 ⟨rfl, hJ3, hk3, -⟩
        have HJ3 := hide hJ3
        clear hJ3 hk3
        gi_wp2
        go_end0
        exact ⟨⟨_, rfl⟩, by rw [← HA.out]; exact HJ3.out⟩
      | false =>
        have HA : Hid (allParts ls = prts ls k) := by rw [Hid, allParts, ← hke, HST.out]; simp
        gi_wp2
        go_end0
        exact ⟨⟨_, rfl⟩, by rw [HA.out]; exact HJk.out⟩
end Go.Proofs.Qxb6603539a.Ds

import Derived.Test.Qxb6603539aWEnts
import Derived.Shelf.Abstract
namespace Go.Proofs.Qxb6603539a.Ds
open Go.RowKit
attribute [local go_sem] Oper.semAt_some

theorem round_any {m m' l0 : Nat} {P : Program} {l : Nat} {f : FuncId} {tmps : Array Value} {assign body : Code} {w : World} {R : Ending → World → Prop}
    (h : RoundIn Fence.wide m P l f tmps assign body w R) : RoundIn (Fence.wide.inRound l0) m' P l f tmps assign body w R := ⟨h.1, fun c cs _ => h.2 c cs (fun d h => by cases h)⟩

theorem Kp.refl (W : World) : Kp W W := ⟨Nat.le_refl _, fun _ _ _ _ h _ => h⟩
theorem Kp.trans {A B C : World} (h : Kp A B) (k : Kp B C) : Kp A C := ⟨Nat.le_trans h.size k.size, fun i c t fr hi ht => k.same i c t fr (h.same i c t fr hi ht) ht⟩
theorem Kp.alloc {A B : World} (h : Kp A B) (o : Obj) : Kp A (B.alloc o) := h.trans ⟨by simp, fun _ _ _ _ hi _ => (Below.heap_alloc _ _ _ (lt_of_some hi)).trans hi⟩
theorem Kp.drew {A B : World} (h : Kp A B) : Kp A B.drew := h.trans ⟨Nat.le_refl _, fun _ _ _ _ hi _ => hi⟩
theorem Kp.putObj (W : World) (l : Nat) (o o' : Obj) (h : W.heap[l]? = some o) (ho : o.isCells = false) : Kp W (W.putObj l o') :=
  ⟨by simp [World.putObj], fun k c t fr hk _ => (World.putObj_heap_other (fun e => by subst e; rw [h] at hk; cases hk; cases ho)).trans hk⟩
theorem Kp.of_below {w W : World} (h : Below w.heap.size w W) : Kp w W := ⟨h.size, fun k _ _ _ hk _ => (h.block k (lt_of_some hk)).trans hk⟩

theorem parts_make (m : Nat) (w : World) : Calls Try.prog 50 #[.pointer (some ⟨m, 0, none⟩)] w fun e w' => e = .returned (.func (.func 59) #[] #[.pointer (some ⟨w.heap.size, 0, none⟩)]) ∧ w' = w.alloc (.cells #[.pointer (some ⟨m, 0, none⟩)] 27) := by
  go_enter Try.func50, Try.ntmps50
  go_wp2
  go_ret
  exact ⟨rfl, rfl⟩
theorem cparts_make (v p : Value) (w : World) (hv : ∃ ao n c, v = .slice ao n c) (hp : ∃ i, p = .int .i64 i) : Calls Try.prog 38 #[.agg #[v, p]] w fun e w' => e = .returned (.func (.func 49) #[] #[.pointer (some ⟨w.heap.size, 0, none⟩)]) ∧ w' = w.alloc (.cells #[v, p] 51) := by
  obtain ⟨ao, n, c, rfl⟩ := hv
  obtain ⟨i, rfl⟩ := hp
  go_enter Try.func38, Try.ntmps38
  go_wp2
  go_ret
  exact ⟨rfl, rfl⟩
theorem ents_make (m : Nat) (nm : ByteArray) (h e : Int) (w : World) : Calls Try.prog 39 #[.pointer (some ⟨m, 0, none⟩), .agg #[.string nm, .int .i64 h, .int .i64 e]] w fun r w' => r = .returned (.func (.func 51) #[] #[.pointer (some ⟨w.heap.size + 1, 0, none⟩), .pointer (some ⟨w.heap.size, 0, none⟩)]) ∧ w' = (w.alloc (.cells #[.pointer (some ⟨m, 0, none⟩)] 27)).alloc (.cells #[.string nm, .int .i64 h, .int .i64 e] 94) := by
  go_enter Try.func39, Try.ntmps39
  go_wp2
  go_ret
  exact ⟨rfl, rfl⟩

def ptr (f : Fl) : Value := .pointer (some ⟨f.m, 0, none⟩)
/-- Where the files lie. -/
structure FilesAt (W : World) (fa : Option Addr) (fb : Nat) (fs : List Fl) : Prop where
  row : (fa = none ∧ fs = []) ∨ (fa = some ⟨fb, 0, none⟩ ∧ W.heap[fb]? = some (.cells (fs.map ptr).toArray 27 (0, 0)))
  each : ∀ f ∈ fs, FileAt W f
theorem FilesAt.kp {W W' : World} {fa : Option Addr} {fb : Nat} {fs : List Fl} (h : FilesAt W fa fb fs) (hk : Kp W W') : FilesAt W' fa fb fs :=
  ⟨h.row.imp id (fun x => ⟨x.1, hk.same _ _ _ _ x.2 (by unfold envT; simp)⟩), fun f hf => (h.each f hf).kp hk⟩
theorem FilesAt.cell {W : World} {fa : Option Addr} {fb : Nat} {fs : List Fl} (h : FilesAt W fa fb fs) {i : Nat} {f : Fl} (hi : fs[i]? = some f) : fa = some ⟨fb, 0, none⟩ ∧ W.cell? ⟨fb, i, none⟩ = some (.pointer (some ⟨f.m, 0, none⟩)) := by
  rcases h.row with ⟨_, rfl⟩ | ⟨h1, h2⟩
  · simp at hi
  · refine ⟨h1, ?_⟩
    rw [cell_of_row W fb i _ _ _ h2]
    simp [hi, ptr]

def encFP (x : Fl × Part) : Array Value := #[.pointer (some ⟨x.1.m, 0, none⟩), .agg #[.string x.2.nm, .int .i64 x.2.h, .int .i64 x.2.e]]
def fileParts (fs : List Fl) : List (Fl × Part) := fs.flatMap fun f => (allParts f.ls).map fun p => (f, p)
theorem fileParts_snoc (fs : List Fl) (f : Fl) : fileParts (fs ++ [f]) = fileParts fs ++ (allParts f.ls).map (fun p => (f, p)) := by simp [fileParts]
theorem fileParts_pre (fs : List Fl) (k : Nat) (f : Fl) (h : fs[k]? = some f) (pre : List Part) (hp : pre <+: allParts f.ls) : fileParts (fs.take k) ++ pre.map (fun p => (f, p)) <+: fileParts fs := by
  have h1 : fs.take (k + 1) = fs.take k ++ [f] := by rw [List.take_add_one, h]; rfl
  have h2 : fileParts (fs.take (k + 1)) <+: fileParts fs := by
    conv => rhs; rw [← List.take_append_drop (k + 1) fs]
    unfold fileParts
    rw [List.flatMap_append]
    exact List.prefix_append _ _
  refine List.IsPrefix.trans ?_ h2
  rw [h1, fileParts_snoc]
  obtain ⟨t, ht⟩ := hp
  rw [← ht, List.map_append, ← List.append_assoc]
  exact List.prefix_append _ _

/-- A file that the walk may read: not too long; its headers sound; its texts not too long. -/
structure FOk (f : Fl) : Prop where
  len : f.ls.length ≤ 1048576
  sound : ∀ i, i < f.ls.length → (at' f.ls i).k = 2 → ind (at' f.ls i).t < (at' f.ls i).t.size
  txt : ∀ i, i < f.ls.length → (at' f.ls i).t.size ≤ 1048576

def mark (D : Nat) : Deferred := { target := .collected D, args := #[] }
end Go.Proofs.Qxb6603539a.Ds

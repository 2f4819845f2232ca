import Derived.Test.Qxb6603539aWIter
namespace Go.Proofs.Qxb6603539a.Ds
open Go.RowKit
attribute [local go_sem] Oper.semAt_some

/-- A file: the block of its struct, the block of its lines, their address, the lines. -/
structure Fl where
  m : Nat
  b : Nat
  ao : Option Addr
  ls : List Ln

def FileAt (W : World) (f : Fl) : Prop := W.heap[f.m]? = some (.cells #[.bool false, .slice f.ao f.ls.length f.ls.length] 31 (0, 0)) ∧ LV W f.b f.ls.length f.ls.length f.ao f.ls
theorem FileAt.kp {W W' : World} {f : Fl} (h : FileAt W f) (hk : Kp W W') : FileAt W' f :=
  ⟨hk.same _ _ _ _ h.1 (by unfold envT; simp), h.2.kept (fun x => hk.same _ _ _ _ x (by unfold envT; simp))⟩
theorem FileAt.below {w W : World} {f : Fl} (h : FileAt w f) (hb : Below w.heap.size w W) : FileAt W f :=
  ⟨(hb.block _ (lt_of_some h.1)).trans h.1, h.2.kept (fun x => (hb.block _ (lt_of_some x)).trans x)⟩
theorem FileAt.lies {W : World} {f : Fl} (h : FileAt W f) : Lies W f.b f.ao f.ls := by
  have := h.2.lies; rwa [List.take_length] at this

/-- The places of the entries among the d lines from lo on. -/
def entU (ls : List Ln) (lo : Nat) : Nat → List Nat
  | 0 => []
  | d + 1 => if (at' ls (lo + d)).k = 3 then entU ls lo d ++ [lo + d] else entU ls lo d
theorem entU_yes {ls : List Ln} {lo d : Nat} (h : (at' ls (lo + d)).k = 3) : entU ls lo (d + 1) = entU ls lo d ++ [lo + d] := by
  conv => lhs; unfold entU
  rw [if_pos h]
theorem entU_no {ls : List Ln} {lo d : Nat} (h : (at' ls (lo + d)).k ≠ 3) : entU ls lo (d + 1) = entU ls lo d := by
  conv => lhs; unfold entU
  rw [if_neg h]
theorem entU_pre (ls : List Ln) (lo : Nat) : ∀ (d i : Nat), entU ls lo i <+: entU ls lo (i + d)
  | 0, i => List.prefix_refl _
  | d + 1, i => by
    refine (entU_pre ls lo d i).trans ?_
    rw [show i + (d + 1) = (i + d) + 1 by omega]
    by_cases h : (at' ls (lo + (i + d))).k = 3
    · rw [entU_yes h]; exact List.prefix_append _ _
    · rw [entU_no h]; exact List.prefix_refl _
/-- The places of the entries of a part. -/
def entsOf (ls : List Ln) (x : Part) : List Nat := entU ls (x.h + 1).toNat ((x.e).toNat - (x.h + 1).toNat)

def encI (i : Nat) : Array Value := #[.int .i64 i]
def ownN (_ : TypeId) : Prop := False

set_option maxHeartbeats 4000000 in
set_option maxRecDepth 100000 in
theorem ents_gives (n : Nat) (hn : 1 ≤ n) (Bp Bf : Nat) (f : Fl) (x : Part) (w : World) (hF : FileAt w f) (hp : w.heap[Bp]? = some (.cells #[.string x.nm, .int .i64 x.h, .int .i64 x.e] 94 (0, 0))) (hf : w.heap[Bf]? = some (.cells #[.pointer (some ⟨f.m, 0, none⟩)] 27 (0, 0)))
    (hl : f.ls.length ≤ 1048576) (hx : -1 ≤ x.h ∧ x.h < x.e ∧ x.e ≤ f.ls.length) :
    Gives Fence.wide n Try.prog 51 #[.pointer (some ⟨Bp, 0, none⟩), .pointer (some ⟨Bf, 0, none⟩)] encI ownN Kp (entsOf f.ls x) w := by
  intro l J W hbel hJ hY hJ0
  obtain ⟨m, b, ao, ls⟩ := f
  obtain ⟨nm, h, e⟩ := x
  simp only at hf hl hx hp
  obtain ⟨hx0, hx1, hx2⟩ := hx
  obtain ⟨lo, rfl⟩ : ∃ lo : Nat, h = (lo : Int) - 1 := ⟨(h + 1).toNat, by omega⟩
  obtain ⟨hi, rfl⟩ : ∃ hi : Nat, e = hi := ⟨e.toNat, by omega⟩
  have hlo : lo ≤ hi := by omega
  have hhi : hi ≤ ls.length := by omega
  have hE : entsOf ls ⟨nm, (lo : Int) - 1, (hi : Int)⟩ = entU ls lo (hi - lo) := by
    unfold entsOf; simp only; congr 1 <;> omega
  simp only [hE] at hY ⊢
  have hold : ∀ (j : Nat) (o : Obj), w.heap[j]? = some o → W.heap[j]? = some o := fun j o hj => (hbel.block j (lt_of_some hj)).trans hj
  have HF := hide (hF.below hbel)
  have HP := hide (hold _ _ hp)
  have HFp := hide (hold _ _ hf)
  have HJ := hide hJ
  have HY := hide hY
  have HJ0 := hide hJ0
  clear hF hp hf hJ hY hJ0 hold hbel hE
  have p1 : W.cell? ⟨Bp, 1, none⟩ = some (.int .i64 ((lo : Int) - 1)) := by rw [cell_of_row W _ 1 _ _ _ HP.out]; rfl
  refine callsIn_of_wp Try.func51 rfl trivial ?_ rfl
  simp only [Try.ntmps51, List.size_toArray, List.length_cons, List.length_nil, Nat.reduceAdd, Nat.reduceSub, Array.replicate_succ, Array.replicate_zero, List.push_toArray, List.append_toArray, List.nil_append, List.cons_append]
  have hw1 : IntKind.i64.wrap ((lo : Int) - 1 + 1) = (lo : Int) := by rw [IntWalk.i64_in _ (by omega)]; omega
  gi_wp2
  clear p1
  gi_loopw [4] (fun t wr => ∃ d : Nat, d ≤ hi - lo ∧ t = .int .i64 ((lo + d : Nat) : Int) ∧ Hid (FileAt wr ⟨m, b, ao, ls⟩) ∧ Hid (wr.heap[Bp]? = some (.cells #[.string nm, .int .i64 ((lo : Int) - 1), .int .i64 (hi : Int)] 94 (0, 0))) ∧ Hid (wr.heap[Bf]? = some (.cells #[.pointer (some ⟨m, 0, none⟩)] 27 (0, 0))) ∧ Hid (J (entU ls lo d) wr)) (fun t _ => hi - (intOf t).toNat)
  case atStart => exact ⟨0, Nat.zero_le _, rfl, HF, HP, HFp, HJ0⟩
  case round =>
    clear HF HP HFp HJ0
    obtain ⟨d, hd, rfl, HF, HP, HFp, HJd⟩ := hrel
    have p2 : wr.cell? ⟨Bp, 2, none⟩ = some (.int .i64 (hi : Int)) := by rw [cell_of_row wr _ 2 _ _ _ HP.out]; rfl
    by_cases hlt : d < hi - lo
    · have hLs := HF.out.lies
      simp only at hLs
      obtain rfl := hLs.ao (by omega)
      obtain ⟨tx, kd, en, hln⟩ : ∃ tx kd en, at' ls (lo + d) = ⟨tx, kd, en⟩ := ⟨_, _, _, rfl⟩
      have l1 := hLs.c1 (lo + d) (by omega)
      rw [hln] at l1
      have HLN := hide hln
      have cf : wr.cell? ⟨Bf, 0, none⟩ = some (.pointer (some ⟨m, 0, none⟩)) := by rw [cell_of_row wr _ 0 _ _ _ HFp.out]; rfl
      have cm : wr.cell? ⟨m, 1, none⟩ = some (.slice (some ⟨b, 0, none⟩) ls.length ls.length) := by rw [cell_of_row wr _ 1 _ _ _ HF.out.1]; rfl
      clear hLs hln
      by_cases hk : kd = 3
      · subst hk
        have HE : Hid (entU ls lo (d + 1) = entU ls lo d ++ [lo + d]) := entU_yes (by rw [HLN.out])
        obtain ⟨fn, tmps, assign, body, hy, hR⟩ := HY.out (entU ls lo d) (lo + d) wr HJd.out (by
          rw [← HE.out]; have := entU_pre ls lo (hi - lo - (d + 1)) (d + 1); rwa [show d + 1 + (hi - lo - (d + 1)) = hi - lo by omega] at this)
        simp only [encI, Int.natCast_add] at hy
        have HR := hide hR
        clear hR
        gi_wp2
        refine HR.out.mono ?_
        rintro e' W3 ⟨rfl, hJ3, hk3, -⟩
        have HJ3 := hide hJ3
        have HF3 := hide (HF.out.kp hk3)
        have HP3 := hide (hk3.same _ _ _ _ HP.out (by unfold envT; simp))
        have HFp3 := hide (hk3.same _ _ _ _ HFp.out (by unfold envT; simp))
        clear hJ3 hk3 hy p2 cf cm l1
        gi_wp2
        go_roundw
        case rel => exact ⟨d + 1, by omega, by go_num, HF3, HP3, HFp3, by rw [HE.out]; exact HJ3⟩
        case measure => simp [intOf]; omega
      · have k3 : (kd == 3) = false := by simpa using hk
        have HE : Hid (entU ls lo (d + 1) = entU ls lo d) := entU_no (by rw [HLN.out]; exact hk)
        gi_wp2
        refine ⟨fun _ h => (by cases h), ?_⟩
        gi_wp2
        go_roundw
        case rel => exact ⟨d + 1, by omega, by go_num, HF, HP, HFp, by rw [HE.out]; exact HJd⟩
        case measure => simp [intOf]; omega
    · obtain rfl : d = hi - lo := by omega
      gi_wp2
      go_end0
      exact ⟨⟨_, rfl⟩, HJd.out⟩
end Go.Proofs.Qxb6603539a.Ds

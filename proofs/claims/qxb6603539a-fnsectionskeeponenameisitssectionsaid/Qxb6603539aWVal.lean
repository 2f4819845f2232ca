import Derived.Test.Qxb6603539aWEnd
import Derived.Test.Qxb6603539aShelf
import Derived.Shelf.Strings.BuilderK
import Derived.Deep.LoopGhost
import Derived.BigQuiet
namespace Go.Proofs.Qxb6603539a.Ds
open Go.RowKit

/-- The builder's bytes and the count of blank lines after d lines more. -/
def evS (ls : List Ln) (i : Nat) : Nat → List UInt8 × Nat
  | 0 => ((valT (at' ls i).t).data.toList, 0)
  | d + 1 =>
    if (at' ls (i + 1 + d)).k = 4 then ((if 0 < (evS ls i d).1.length then (evS ls i d).1 ++ Lib.repeatL [10] ((evS ls i d).2 + 1) else (evS ls i d).1) ++ (trm (at' ls (i + 1 + d)).t).data.toList, 0)
    else if (at' ls (i + 1 + d)).k = 0 then ((evS ls i d).1, (evS ls i d).2 + 1) else evS ls i d
def EV (ls : List Ln) (i : Nat) : ByteArray := ⟨(evS ls i (eEnd ls i - (i + 1))).1.toArray⟩
theorem evS_c1 {ls : List Ln} {i d : Nat} (h : (at' ls (i + 1 + d)).k = 4) (h0 : 0 < (evS ls i d).1.length) : evS ls i (d + 1) = ((evS ls i d).1 ++ Lib.repeatL [10] ((evS ls i d).2 + 1) ++ (trm (at' ls (i + 1 + d)).t).data.toList, 0) := by
  conv => lhs; unfold evS
  rw [if_pos h, if_pos h0]
theorem evS_c0 {ls : List Ln} {i d : Nat} (h : (at' ls (i + 1 + d)).k = 4) (h0 : ¬ 0 < (evS ls i d).1.length) : evS ls i (d + 1) = ((evS ls i d).1 ++ (trm (at' ls (i + 1 + d)).t).data.toList, 0) := by
  conv => lhs; unfold evS
  rw [if_pos h, if_neg h0]
theorem evS_b {ls : List Ln} {i d : Nat} (h : (at' ls (i + 1 + d)).k = 0) : evS ls i (d + 1) = ((evS ls i d).1, (evS ls i d).2 + 1) := by
  conv => lhs; unfold evS
  rw [if_neg (by omega), if_pos h]
theorem evS_o {ls : List Ln} {i d : Nat} (h : (at' ls (i + 1 + d)).k ≠ 4) (h' : (at' ls (i + 1 + d)).k ≠ 0) : evS ls i (d + 1) = evS ls i d := by
  conv => lhs; unfold evS
  rw [if_neg h, if_neg h']
theorem evS_0 (ls : List Ln) (i : Nat) : evS ls i 0 = ((valT (at' ls i).t).data.toList, 0) := by rw [evS]
theorem ba_len (s : ByteArray) : s.data.toList.length = s.size := rfl
theorem evS_bd {ls : List Ln} {i M : Nat} (ht : ∀ j, j < ls.length → (at' ls j).t.size ≤ M) (hi : i < ls.length) (d : Nat) : i + 1 + d ≤ ls.length → (evS ls i d).1.length + (evS ls i d).2 ≤ M + d * (M + 1) := by
  induction d with
  | zero =>
    intro _
    have := ht i hi
    have := valT_size (at' ls i).t
    rw [evS_0]
    simp only [ba_len]
    omega
  | succ d ih =>
    intro h
    have ih := ih (by omega)
    have h1 := ht (i + 1 + d) (by omega)
    have h2 := trm_size (at' ls (i + 1 + d)).t
    rw [Nat.succ_mul]
    generalize d * (M + 1) = X at ih ⊢
    by_cases h4 : (at' ls (i + 1 + d)).k = 4
    · by_cases h0 : 0 < (evS ls i d).1.length
      · rw [evS_c1 h4 h0]
        simp only [List.length_append, Lib.repeatL_length, ba_len, List.length_cons, List.length_nil]
        omega
      · rw [evS_c0 h4 h0]
        simp only [List.length_append, ba_len]
        omega
    · by_cases hb : (at' ls (i + 1 + d)).k = 0
      · rw [evS_b hb]; simp only; omega
      · rw [evS_o h4 hb]; omega

theorem bld_below {T e : TypeId} {B b : Nat} {bs : List Value} {W W' : World} (h : Lib.IsBuilderF T e B b bs W) (hb : Below W.heap.size W W') : Lib.IsBuilderF T e B b bs W' := by
  have key : ∀ p, Lib.BuilderAtF T e B b p bs W → Lib.BuilderAtF T e B b p bs W' := fun p hp => by
    have h1 := hb.block b hp.lt
    obtain ⟨h2, v, h3, h4, h5⟩ := hp
    refine ⟨h2, v, h1.trans h3, ?_, h5⟩
    exact h4.kept (row := none) ⟨hb.os, hb.tape, hb.output, hb.size, fun k hk _ => hb.block k hk⟩ (by cases v.ownBlock <;> simp)
  rcases h with h | h
  · exact .inl (key _ h)
  · exact .inr (key _ h)
theorem write_any (B b : Nat) (l : List UInt8) (s : ByteArray) (w : World) (h : Lib.IsBuilderF 103 5 B b (Lib.byteCells l) w) (hlen : l.length + s.size ≤ 140737488355328) (hBw : B ≤ w.heap.size) :
    Calls Try.prog 42 #[.pointer (some ⟨b, 0, none⟩), .string s] w fun e w' => e = .returned (.tuple #[.int .i64 s.size, .nilIface]) ∧ Lib.IsBuilderF 103 5 B b (Lib.byteCells (l ++ s.data.toList)) w' ∧ Below B w w' ∧ Lib.OthersKept 5 (some b) w w' := by
  refine (Any.Builder_WriteString_k { Try.lays105 with } Try.Builder_Extra_105 B b (Lib.byteCells l) s w h (by rw [Lib.byteCells_length]; exact hlen) hBw).mono ?_
  rintro e w' ⟨h1, h2, h3, h4⟩
  refine ⟨h1, .inr ?_, h3, h4⟩
  have : Lib.byteCells (l ++ s.data.toList) = Lib.byteCells l ++ Lib.strCells s := by simp [Lib.byteCells, Lib.strCells]
  rw [this]; exact h2

set_option maxHeartbeats 2000000 in
theorem ev_any : ∀ (f : Fl) (i : Nat) (W : World), FileAt W f → FOk f → i < f.ls.length → (at' f.ls i).k = 3 → Calls Try.prog 34 #[.pointer (some ⟨f.m, 0, none⟩), .int .i64 i] W fun r W' => r = .returned (.string (EV f.ls i)) ∧ Below W.heap.size W W' := by
  intro f i W hF hok hi hk3
  have HF := hide hF
  have HE := hide (fun w h => end_any f i w h hok.len hi)
  have HT := hide hok.txt
  have hl := hok.len
  have HEB := hide (eEnd_bd f.ls i hi)
  have HBD : Hid (∀ d, i + 1 + d ≤ f.ls.length → (evS f.ls i d).1.length + (evS f.ls i d).2 ≤ 1099515822080) := fun d hd => by
    have h1 := evS_bd hok.txt hi d hd
    have h2 : d * (1048576 + 1) ≤ 1048576 * (1048576 + 1) := Nat.mul_le_mul_right _ (by omega)
    have h3 : 1048576 + 1048576 * (1048576 + 1) ≤ 1099515822080 := Nat.le_of_ble_eq_true rfl
    exact Nat.le_trans h1 (Nat.le_trans (Nat.add_le_add_left h2 _) h3)
  obtain ⟨m, b, ao, ls⟩ := f
  simp only at hi hk3 hl HT HE HEB HBD ⊢
  have HLs := hide hF.lies
  have hao := HLs.out.ao
  simp only at hao HLs
  obtain rfl := hao (by omega)
  clear hao hF
  have HV := hide (fun w => value_entry (at' ls i).t (at' ls i).e w (HT.out i hi))
  have HFA : Hid (∀ W', Below W.heap.size W W' → FileAt W' ⟨m, b, some ⟨b, 0, none⟩, ls⟩) := fun W' h => HF.out.below h
  have HB0 : Hid (Below W.heap.size W (W.alloc (.cells #[.pointer none, .slice none 0 0] 103))) := (Below.refl _ W).alloc (Nat.le_refl _) _
  have HF0 := hide (HFA.out _ HB0.out)
  have l0 := HF0.out.lies.c0 i hi
  have l1 := HF0.out.lies.c1 i hi
  have l2 := HF0.out.lies.c2 i hi
  simp only at l0 l1 l2
  rw [hk3] at l1
  have cm : (W.alloc (.cells #[.pointer none, .slice none 0 0] 103)).cell? ⟨m, 1, none⟩ = some (.slice (some ⟨b, 0, none⟩) ls.length ls.length) := by rw [cell_of_row _ _ 1 _ _ _ HF0.out.1]; rfl
  clear HF0
  have hz := Try.zeroValue103
  have HS0 : Hid ((evS ls i 0).1 = (valT (at' ls i).t).data.toList ∧ (evS ls i 0).2 = 0) := ⟨by rw [evS_0], by rw [evS_0]⟩
  have HVS : Hid ((valT (at' ls i).t).size ≤ 1048576) := Nat.le_trans (valT_size _) (HT.out i hi)
  obtain ⟨tx, en, htx⟩ : ∃ tx en, at' ls i = ⟨tx, 3, en⟩ := ⟨(at' ls i).t, (at' ls i).e, by rw [← hk3]⟩
  rw [htx] at HV l0 l2 HS0 HVS
  simp only at HV l0 l2 HS0 HVS
  generalize valT tx = vx at HV HS0 HVS
  clear hk3 htx
  have HIB := hide (Lib.IsBuilderF.of (Lib.fresh_isBuilder 103 5 W))
  have HIW : Hid (∀ w l (x : ByteArray), Lib.IsBuilderF 103 5 W.heap.size W.heap.size (Lib.byteCells l) w → l.length + x.size ≤ 140737488355328 → W.heap.size ≤ w.heap.size → Calls Try.prog 42 #[.pointer (some ⟨W.heap.size, 0, none⟩), .string x] w fun e w' => e = .returned (.tuple #[.int .i64 x.size, .nilIface]) ∧ Lib.IsBuilderF 103 5 W.heap.size W.heap.size (Lib.byteCells (l ++ x.data.toList)) w' ∧ Below W.heap.size w w' ∧ Lib.OthersKept 5 (some W.heap.size) w w') := fun w l x h1 h2 h3 => write_any _ _ l x w h1 h2 h3
  have hE := HEB.out
  obtain ⟨n, hn⟩ : ∃ n, ls.length = n := ⟨_, rfl⟩
  obtain ⟨d, hd⟩ : ∃ d, eEnd ls i = i + 1 + d := ⟨eEnd ls i - (i + 1), by omega⟩
  have HR : Hid (EV ls i = ⟨(evS ls i d).1.toArray⟩) := by unfold Hid EV; rw [hd, show i + 1 + d - (i + 1) = d by omega]
  have HLen := hide hn
  rw [hd] at HE hE
  rw [hn] at hE hi hl cm
  clear hn hd HEB
  have hw1 : IntKind.i64.wrap ((i : Int) + 1) = (i : Int) + 1 := IntWalk.i64_in _ (by omega)
  have HW0 := hide (Nat.le_refl W.heap.size)
  go_enter Try.func34, Try.ntmps34
  go_wp2_with (go_at_call 43; refine (HV.out _).mono ?_)
  rintro e W1 ⟨rfl, hb1⟩
  have HB1 := hide (HB0.out.trans (hb1.mono HB0.out.size))
  have HI1 := hide (bld_below HIB.out hb1)
  have HC := hide (HIW.out W1 [] vx HI1.out (by have := HVS.out; simp; omega) HB1.out.size)
  clear hb1 HIB HB0 HI1
  go_wp2_with (go_at_call 42; refine HC.out.mono ?_)
  rintro e W2 ⟨rfl, hi2, hb2, -⟩
  have HB2 := hide (HB1.out.trans hb2)
  have HI2 : Hid (Lib.IsBuilderF 103 5 W.heap.size W.heap.size (Lib.byteCells (evS ls i 0).1) W2) := by rw [HS0.out.1]; exact hi2
  have HF2 := hide (HFA.out W2 HB2.out)
  have HCE := hide (fun q => HE.out (W2.drewN q) (HFA.out _ (below_drewN HB2.out q)))
  have cm2 : W2.cell? ⟨m, 1, none⟩ = some (.slice (some ⟨b, 0, none⟩) n n) := by rw [← HLen.out, cell_of_row W2 _ 1 _ _ _ HF2.out.1]; rfl
  clear hi2 hb2 HC HB1 l0 l1 l2 cm HV HF hz HE
  go_wp2
  go_quiet (exact Calls.quiet_of_same (HCE.out _))
  obtain ⟨pa, hpa⟩ : ∃ pa : Option Addr, (if n = i + 1 then some (⟨b, 0, none⟩ : Addr) else some ⟨b, (i + 1) * 3, none⟩) = pa := ⟨_, rfl⟩
  have hpd : 0 < d → pa = some ⟨b, (i + 1) * 3, none⟩ := fun h => by rw [← hpa, if_neg (by omega)]
  rw [hpa, show i + 1 + d - (i + 1) = d by omega]
  clear hpa cm2 HCE HF2
  have HB3 := hide (below_drewN HB2.out nq)
  have HI3 : Hid (Lib.IsBuilderF 103 5 W.heap.size W.heap.size (Lib.byteCells (evS ls i 0).1) (W2.drewN nq)) := bld_below HI2.out (below_drewN (Below.refl _ _) nq)
  generalize W2.drewN nq = W3 at HB3 HI3
  clear HB2 HI2 W2 HVS HLs W1 hok
  go_wp2
  go_loopg [6, 29] d (fun g t6 t29 wx => ∃ j : Nat, j + g = d ∧ t6 = .int .i64 ((evS ls i j).2 : Nat) ∧ t29 = .int .i64 (j : Nat) ∧ Hid (Lib.IsBuilderF 103 5 W.heap.size W.heap.size (Lib.byteCells (evS ls i j).1) wx) ∧ Hid (Below W.heap.size W wx))
  case atStart => exact ⟨0, by omega, by rw [HS0.out.2]; rfl, rfl, HI3, HB3⟩
  case round =>
    clear HB3 HI3 HS0
    obtain ⟨j, hjg, rfl, rfl, HI, HB⟩ := hrel
    by_cases hlt : j < d
    · obtain rfl := hpd (by omega)
      have HLs := hide (HFA.out wr HB.out).lies
      have l0 := HLs.out.c0 (i + 1 + j) (by rw [HLen.out]; omega)
      have l1 := HLs.out.c1 (i + 1 + j) (by rw [HLen.out]; omega)
      have l2 := HLs.out.c2 (i + 1 + j) (by rw [HLen.out]; omega)
      rw [show (i + 1 + j) * 3 = (i + 1) * 3 + j * 3 by omega] at l0 l1 l2
      simp only at l0 l1 l2
      obtain ⟨tx, kd, en, hln⟩ : ∃ tx kd en, at' ls (i + 1 + j) = ⟨tx, kd, en⟩ := ⟨_, _, _, rfl⟩
      rw [hln] at l0 l1 l2
      simp only at l0 l1 l2
      have HTX : Hid (tx.size ≤ 1048576) := by have := HT.out (i + 1 + j) (by rw [HLen.out]; omega); rw [hln] at this; exact this
      have HBDJ := hide (HBD.out j (by rw [HLen.out]; omega))
      have HBDK := hide (HBD.out (j + 1) (by rw [HLen.out]; omega))
      have HLN := hide hln
      clear hln HLs
      have hbj : (evS ls i j).2 ≤ 1099515822080 := by have := HBDJ.out; omega
      have HS1 := hide (fun h h0 => @evS_c1 ls i j h h0)
      have HS2 := hide (fun h h0 => @evS_c0 ls i j h h0)
      have HS3 := hide (fun h => @evS_b ls i j h)
      have HS4 := hide (fun h h0 => @evS_o ls i j h h0)
      rw [HLN.out] at HS1 HS2 HS3 HS4
      simp only at HS1 HS2 HS3 HS4
      obtain ⟨l, c, hlc⟩ : ∃ l c, evS ls i j = (l, c) := ⟨_, _, rfl⟩
      rw [hlc] at HS1 HS2 HS3 HS4 HI HBDJ hbj
      simp only at HS1 HS2 HS3 HS4 HI HBDJ hbj
      simp only [hlc]
      clear hlc
      have hwc : IntKind.i64.wrap ((c : Int) + 1) = (c : Int) + 1 := IntWalk.i64_in _ (by omega)
      have hwj : IntKind.i64.wrap ((j : Int) + 1) = (j : Int) + 1 := IntWalk.i64_in _ (by omega)
      by_cases h4 : kd = 4
      · subst h4
        have HB4 : Hid (Below W.heap.size W (wr.alloc (.cells #[.string tx, .int .u8 4, .int .u8 en] 38))) := HB.out.alloc HB.out.size _
        have HI4 : Hid (Lib.IsBuilderF 103 5 W.heap.size W.heap.size (Lib.byteCells l) (wr.alloc (.cells #[.string tx, .int .u8 4, .int .u8 en] 38))) := bld_below HI.out ((Below.refl _ _).alloc (Nat.le_refl _) _)
        have HLB : Hid ((wr.alloc (.cells #[.string tx, .int .u8 4, .int .u8 en] 38)).heap[wr.heap.size]? = some (.cells #[.string tx, .int .u8 4, .int .u8 en] 38 (0, 0))) := heap_alloc_new wr _
        have HNE : Hid (wr.heap.size ≠ W.heap.size) := by
          have : W.heap.size < wr.heap.size := by rcases HI.out with h | h <;> exact h.lt
          show wr.heap.size ≠ W.heap.size
          omega
        have HTS : Hid ((trm tx).size ≤ 1048576) := Nat.le_trans (trm_size tx) HTX.out
        have HV := hide (fun w => value_cont tx en w HTX.out)
        have HCL := Try.Builder_Len_f _ _ _ _ HI4.out
        rw [Lib.byteCells_length] at HCL
        have HCL := hide HCL
        by_cases hz : 0 < l.length
        · have HSX := hide (HS1.out rfl hz)
          have hz' : decide ((0 : Int) < (l.length : Int)) = true := decide_eq_true (by omega)
          clear HS1 HS2 HS3 HS4 hpd HT HBD HI HTX
          have HRp := fun w => Try.strings_Repeat ⟨#[10]⟩ (c + 1) w (by omega) (by show 1 * (c + 1) ≤ _; omega)
          rw [show ((⟨#[10]⟩ : ByteArray).data.toList) = [10] from rfl, Int.natCast_add, Int.natCast_one] at HRp
          have HRp := hide HRp
          have HRL : Hid (({ data := (Lib.repeatL [10] (c + 1)).toArray } : ByteArray).size = c + 1 ∧ ({ data := (Lib.repeatL [10] (c + 1)).toArray } : ByteArray).data.toList = Lib.repeatL [10] (c + 1)) := ⟨by show (Lib.repeatL [10] (c + 1)).toArray.size = c + 1; simp [Lib.repeatL_length], rfl⟩
          obtain ⟨rp, hrp⟩ : ∃ rp : ByteArray, (⟨(Lib.repeatL [10] (c + 1)).toArray⟩ : ByteArray) = rp := ⟨_, rfl⟩
          rw [hrp] at HRp HRL
          clear hrp
          go_wp2_with (first | (go_at_call 45; refine HCL.out.mono ?_; rintro e w' ⟨rfl, hw⟩; have hw' := hw.symm; subst hw') | (go_at_call 46; refine (HRp.out _).mono ?_))
          rintro e W4 ⟨rfl, hb⟩
          have HB5 := hide (HB4.out.trans (hb.mono HB4.out.size))
          have HI5 := hide (bld_below HI4.out hb)
          have HLB5 := hide ((hb.block _ (Array.getElem?_eq_some_iff.1 HLB.out).1).trans HLB.out)
          have HC5 := hide (HIW.out W4 l rp HI5.out (by have := HBDJ.out; have := HRL.out.1; omega) HB5.out.size)
          clear hb HB4 HI4 HLB HCL HRp
          go_wp2_with (go_at_call 42; refine HC5.out.mono ?_)
          rintro e W5 ⟨rfl, hi6, hb6, hk6⟩
          have HB6 := hide (HB5.out.trans hb6)
          have HI6 := hide hi6
          have HLB6 := hide (hk6 _ _ HLB5.out (by simpa using HNE.out) (by intro c fz h; cases h))
          clear hi6 hb6 hk6 HB5 HI5 HLB5 HC5
          have q0 : W5.cell? ⟨wr.heap.size, 0, none⟩ = some (.string tx) := by rw [cell_of_row W5 _ 0 _ _ _ HLB6.out]; rfl
          have q1 : W5.cell? ⟨wr.heap.size, 1, none⟩ = some (.int .u8 4) := by rw [cell_of_row W5 _ 1 _ _ _ HLB6.out]; rfl
          have q2 : W5.cell? ⟨wr.heap.size, 2, none⟩ = some (.int .u8 en) := by rw [cell_of_row W5 _ 2 _ _ _ HLB6.out]; rfl
          go_wp2_with (go_at_call 43; refine (HV.out _).mono ?_)
          rintro e W6 ⟨rfl, hb⟩
          have HB7 := hide (HB6.out.trans (hb.mono HB6.out.size))
          have HI7 := hide (bld_below HI6.out hb)
          have HC7 := hide (HIW.out W6 _ (trm tx) HI7.out (by have := HBDJ.out; have h2 := HRL.out; have := HTS.out; rw [List.length_append, h2.2, Lib.repeatL_length]; simp; omega) HB7.out.size)
          clear hb HB6 HI6 HLB6 q0 q1 q2 HV
          go_wp2_with (go_at_call 42; refine HC7.out.mono ?_)
          rintro e W8 ⟨rfl, hi8, hb8, -⟩
          have HB8 := hide (HB7.out.trans hb8)
          have HI8 := hide hi8
          rw [HRL.out.2] at HI8
          clear hi8 hb8 HB7 HI7 HC7
          go_wp2
          go_roundg (d - (j + 1))
          case measure => omega
          case rel => exact ⟨j + 1, by omega, by rw [HSX.out]; rfl, by go_num, by rw [HSX.out]; exact HI8, HB8⟩
        · have HSX := hide (HS2.out rfl hz)
          have hz' : decide ((0 : Int) < (l.length : Int)) = false := decide_eq_false (by omega)
          clear HS1 HS2 HS3 HS4 hpd HT HBD HI HTX
          go_wp2_with (first | (go_at_call 45; refine HCL.out.mono ?_; rintro e w' ⟨rfl, hw⟩; have hw' := hw.symm; subst hw') | (go_at_call 43; refine (HV.out _).mono ?_))
          rintro e W6 ⟨rfl, hb⟩
          have HB7 := hide (HB4.out.trans (hb.mono HB4.out.size))
          have HI7 := hide (bld_below HI4.out hb)
          have HC7 := hide (HIW.out W6 _ (trm tx) HI7.out (by have := HBDJ.out; have := HTS.out; omega) HB7.out.size)
          clear hb HB4 HI4 HLB HV
          go_wp2_with (go_at_call 42; refine HC7.out.mono ?_)
          rintro e W8 ⟨rfl, hi8, hb8, -⟩
          have HB8 := hide (HB7.out.trans hb8)
          have HI8 := hide hi8
          clear hi8 hb8 HB7 HI7 HC7
          go_wp2
          go_roundg (d - (j + 1))
          case measure => omega
          case rel => exact ⟨j + 1, by omega, by rw [HSX.out]; rfl, by go_num, by rw [HSX.out]; exact HI8, HB8⟩
      · have k4 : (kd == 4) = false := by simpa using h4
        have HB4 : Hid (∀ o, Below W.heap.size W (wr.alloc o)) := fun o => HB.out.alloc HB.out.size o
        have HI4 : Hid (∀ o, Lib.IsBuilderF 103 5 W.heap.size W.heap.size (Lib.byteCells l) (wr.alloc o)) := fun o => bld_below HI.out ((Below.refl _ _).alloc (Nat.le_refl _) o)
        by_cases h0 : kd = 0
        · subst h0
          have HSX := hide (HS3.out rfl)
          clear HS1 HS2 HS3 HS4 hpd
          go_wp2
          go_roundg (d - (j + 1))
          case measure => omega
          case rel => exact ⟨j + 1, by omega, by rw [HSX.out]; go_num, by go_num, by rw [HSX.out]; exact HI4.out _, HB4.out _⟩
        · have k0 : (kd == 0) = false := by simpa using h0
          have HSX := hide (HS4.out h4 h0)
          clear HS1 HS2 HS3 HS4 hpd
          go_wp2
          go_roundg (d - (j + 1))
          case measure => omega
          case rel => exact ⟨j + 1, by omega, by rw [HSX.out], by go_num, by rw [HSX.out]; exact HI4.out _, HB4.out _⟩
    · obtain rfl : j = d := by omega
      have HC := hide (Try.Builder_String_any_f _ _ _ _ HI.out HB.out.size)
      go_wp2_with (go_at_call 47; refine HC.out.mono ?_)
      rintro e W4 ⟨rfl, -, hb4⟩
      have HB4 := hide (HB.out.trans hb4)
      clear hb4
      go_wp2
      go_ret
      exact ⟨ret_str HR.out.symm, HB4.out⟩
end Go.Proofs.Qxb6603539a.Ds

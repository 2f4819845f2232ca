/-
  THE SHELL OF A PROOF OF 'Rows.FnBracketEndMatchesByteScanSaid' ('example.com/failover/failover/zzlaws_root_b1.FnBracketEndMatchesByteScan'), WRITTEN BY PROGRAM (proof-skeleton.mjs, third state) off the guide's own print for that function. Not trusted: Lean checks it.
-/
import Derived.Test.Qxb6602558aRows
import Derived.WalkKit
import Derived.ProofKit
import Derived.OpenShut
import Derived.ShutString
import Derived.ChangeOld
import Derived.Below
import Derived.Test.Qxb6602558aWalkF
namespace Go.Proofs.Qxb6602558a.fnBracketEndMatchesByteScan
open Go.ChangeShapes Go.WideShapes Go.ChangeAt Go.RowKit
open Go.ChangeMaps (open_string shut_string)
set_option linter.unusedVariables false

theorem own : ownKnob Try.prog.godebug = none := by kernel_rfl
theorem laidOut : laidOutB Try.prog = true := by kernel_rfl

/-- WHAT THE WALK IS TOLD OF A SLICE OF INTEGERS THAT CAME IN: it is nil; or it leads to a row of 'cap' cells, the numbers 'zs' (the first 'len' are its elements, the rest its spare room), each fitting its kind. -/
def IsRow (k : IntKind) (w : World) (a : Option Addr) (len cap : Nat) (zs : List Int) : Prop :=
  (a = none ∧ len = 0 ∧ cap = 0 ∧ zs = []) ∨
  ∃ x, a = some x ∧ len ≤ cap ∧ cap ≤ maxLen ∧ zs.length = cap ∧ (∀ i, i < zs.length → w.cell? (x.add i) = some (.int k (zs.getD i 0))) ∧ ∀ n ∈ zs, (Lit.int k n).wf = true

/-! ### STEP 1: THE WALK: the Go text returns true, AND WRITES NOTHING THAT WAS THERE: 'Below w.heap.size w w'' (Derived/Below.lean: '.refl', '.alloc', '.drew', '.setCell' at a new block, '.trans'). Open each 'IsRow' by 'rcases' AHEAD of 'go_enter'; part every test ahead of the walk. -/
theorem own_cells {w1 : World} {B n : Nat} {xs : List Int} (h : w1.ownsRow B 5 1 (.slice (some ⟨B, 0, none⟩) n n) n (xs.map (Value.int .u8))) (hx : xs.length = n) : ∀ i, i < n → w1.cell? ⟨B, i, none⟩ = some (.int .u8 (xs.getD i 0)) := fun i hi => by
  rw [h.cellAt i (by omega)]
  simp [List.getD, show i < xs.length by omega]

open Br in
theorem clone_nil (w : World) : Calls Try.prog 10 #[.slice none 0 0] w fun e w' => e = .returned (.slice none 0 0) ∧ w' = w := by
  have q22 : ∀ (w : World) (a : Option Addr) (n c n' c' : Nat), (binOp .eql 22 (.slice a n c) (.slice none n' c')).run Try.prog w = .ok (.bool a.isNone) w := fun w a n c n' c' => Lib.run_eql_slice_nil w _ _ a n c n' c' Try.underlying22
  go_enter Try.func10, Try.ntmps10
  go_wp2
  go_ret
  exact ⟨rfl, rfl⟩

open Br in
/-- Where the guards let by: the input is a nil slice. -/
theorem walk_nil (a0 : Int) (a1 a2 : Bool) (w : World) (hes : (a2 && !a1) = false) :
    Calls Try.prog 3 #[.int .i64 a0, .bool a1, .bool a2, .slice none 0 0] w fun e w' => e = .returned (.bool true) ∧ Below w.heap.size w w' := by
  have H10 := hide clone_nil
  have H11 := hide zz_zero
  have H12 := hide scan_zero
  rcases Bool.eq_false_or_eq_true a1 with rfl | rfl <;> rcases Bool.eq_false_or_eq_true a2 with rfl | rfl
  all_goals try (exfalso; revert hes; decide)
  all_goals
    clear hes
    go_enter Try.func3, Try.ntmps3
    go_wp2_with (first | (go_at_call 10; refine (H10.out _).mono ?_; rintro e w' ⟨rfl, hw⟩; have hw' := hw.symm; subst hw') | (go_at_call 11; refine (H11.out _ _ _ _ _ _).mono ?_; rintro e w1 ⟨rfl, hB⟩) | (go_at_call 12; refine (H12.out _ _ _ _ _ _).mono ?_; rintro e w' ⟨rfl, hw⟩; have hw' := hw.symm; subst hw') | go_in)
    go_ret
    exact ⟨rfl, hB⟩

open Br in
theorem walk_some (a0 : Int) (a1 a2 : Bool) (x : Addr) (n c : Nat) (xs : List Int) (w : World) (hes : a2 = true → a1 = true) (hn : n ≤ 1048576) (hx : xs.length = n) (hb : Byt xs) (hbB : 0 < n → x.block < w.heap.size)
    (hc : ∀ i, i < n → w.cell? (x.add i) = some (.int .u8 (xs.getD i 0))) :
    Calls Try.prog 3 #[.int .i64 a0, .bool a1, .bool a2, .slice (some x) n c] w fun e w' => e = .returned (.bool true) ∧ Below w.heap.size w w' := by
  obtain ⟨r1, r2, r3, r4, hr⟩ : ∃ r1 r2 r3 r4, scan xs 0 a0 a1 a2 = (r1, r2, r3, r4) := ⟨_, _, _, _, rfl⟩
  have HT := hide hr
  have H10 := hide (clone_any x n c xs w hx hn hbB hc)
  have H11 := hide (fun (w1 : World) hbm hc1 => zz_any w.heap.size n xs a0 a1 a2 r1 r2 r3 r4 w1 hx hn hb hbm hc1 hes HT)
  have H12 := hide (fun (w1 : World) hc1 => scan_any w.heap.size 0 n n xs a0 a1 a2 r1 r2 r3 r4 w1 hx hn hc1 HT)
  have hes' : (a2 && !a1) = false := by cases a1 <;> cases a2 <;> simp_all
  clear hr hc hb hes
  rcases Bool.eq_false_or_eq_true a1 with rfl | rfl <;> rcases Bool.eq_false_or_eq_true a2 with rfl | rfl
  all_goals try (exfalso; revert hes'; decide)
  all_goals
    clear hes'
    go_enter Try.func3, Try.ntmps3
    go_wp2_with (first | (go_at_call 10; refine H10.out.mono ?_; rintro e w1 ⟨rfl, hown, hB1⟩; have HO := hide hown; clear hown; have hsz := hide (HO.out.lt w.heap.size rfl).2; have HC1 : Hid (∀ i, i < n → w1.cell? ⟨w.heap.size, i, none⟩ = some (.int .u8 (xs.getD i 0))) := own_cells HO.out hx) | (go_at_call 11; refine (H11.out _ (by exact hsz.out) (by exact HC1.out)).mono ?_; rintro e w2 ⟨rfl, hB2⟩; have HC2 : Hid (∀ i, i < n → w2.cell? ⟨w.heap.size, 0 + i, none⟩ = some (.int .u8 (xs.getD i 0))) := fun i h => by rw [Nat.zero_add, hB2.cell (by exact hsz.out)]; exact HC1.out i h) | (go_at_call 12; refine (H12.out _ (by exact HC2.out)).mono ?_; rintro e w' ⟨rfl, hw⟩; have hw' := hw.symm; subst hw') | go_in)
    go_ret
    exact ⟨rfl, hB1.trans (hB2.mono hB1.size)⟩

theorem byt_of_wf {zs : List Int} (h : ∀ n ∈ zs, (Lit.int .u8 n).wf = true) : Br.Byt zs := fun c hc => by
  have := bounds_u8 (h c hc); omega

theorem walk (a0 : Int) (a1 : Bool) (a2 : Bool) (a3 : Option Addr) (len3 cap3 : Nat) (z3 : List Int) (w : World) (w0 : (Lit.int .i64 a0).wf = true) (w3 : IsRow .u8 w a3 len3 cap3 z3) :
    Calls Try.prog 3 #[.int .i64 a0, .bool a1, .bool a2, .slice a3 len3 cap3] w fun e w' => e = .returned (.bool true) ∧ Below w.heap.size w w' := by
  by_cases hbig : 1048576 < len3
  · go_enter Try.func3, Try.ntmps3
    go_wp2
    go_ret
    exact ⟨rfl, Below.refl _ _⟩
  have hn : len3 ≤ 1048576 := by omega
  by_cases hes : a2 = true ∧ a1 = false
  · obtain ⟨rfl, rfl⟩ := hes
    go_enter Try.func3, Try.ntmps3
    go_wp2
    go_ret
    exact ⟨rfl, Below.refl _ _⟩
  rcases w3 with ⟨rfl, rfl, rfl, rfl⟩ | ⟨x, rfl, hl, hm, hz, hcell, hwz⟩
  · exact walk_nil a0 a1 a2 w (by cases a1 <;> cases a2 <;> simp_all)
  · refine walk_some a0 a1 a2 x len3 cap3 (z3.take len3) w (by cases a1 <;> cases a2 <;> simp_all) hn (by simp; omega) (byt_of_wf fun n hn => hwz n (List.mem_of_mem_take hn)) (fun h0 => ?_) (fun i hi => ?_)
    · have := block_lt_of_cell (hcell 0 (by omega))
      simpa [Addr.add] using this
    · rw [hcell i (by omega)]
      simp [List.getD, hi]

/-! ### THE ROW's STEP: WRITTEN OUT: LEAVE IT -/
set_option maxRecDepth 100000 in
theorem lifted (os : Os) (started : os.Started) (H : Type) (enc : TypeId × Value → H) :
    ReturnsInHanded {} Try.checked os 3 .any (Rows.fnBracketEndMatchesByteScanSpec.pre6 enc Try.prog Try.f3 Rows.fnBracketEndMatchesByteScanRow.domain false) (Rows.fnBracketEndMatchesByteScanSpec.post enc Try.prog Try.f3 false true false false) := by
  refine returnsInHanded_of_change (C := Try.checked) own started (by kernel_rfl) Try.func3
    (ChangeSpec.witness6 (enc := enc) (C := Try.checked) false ⟨#[], #[.int .i64 0, .bool false, .bool false, .slice none 0 0], []⟩ 8 (by kernel_rfl) (by kernel_rfl) (by kernel_rfl) (by kernel_rfl)) ?_
  intro W base args ds gs before hval0 hW hcnd _
  have hval : ∀ (j : Nat) t v, Try.f3.params[j]? = some t → args[j]? = some v → Value.okWide Try.prog W .any base t v := hval0
  have hW' := hW
  obtain ⟨p, q, hA0, hV, rfl, hfz, hnd⟩ := hW
  have hA : DataW.TrodAll enc Try.prog W 0 (fun _ => true) true Try.f3.params.toList args.toList ds p := hA0
  rw [Try.params3] at hA hval
  obtain ⟨v0, vs0, d0, ds0, p0, q0, hargs, rfl, rfl, h0, r0⟩ := trodAll_cons hA
  obtain ⟨v1, vs1, d1, ds1, p1, q1, rfl, rfl, rfl, h1, r1⟩ := trodAll_cons r0
  obtain ⟨v2, vs2, d2, ds2, p2, q2, rfl, rfl, rfl, h2, r2⟩ := trodAll_cons r1
  obtain ⟨v3, vs3, d3, ds3, p3, q3, rfl, rfl, rfl, h3, r3⟩ := trodAll_cons r2
  obtain ⟨rfl, rfl, rfl⟩ := trodAll_nil r3
  obtain rfl : args = #[v0, v1, v2, v3] := by cases args; simp_all
  obtain ⟨rfl, rfl⟩ := trodVars_none hV
  obtain ⟨a0, rfl, rfl, rfl, w0⟩ := open_int Try.underlying3 (hval 0 3 v0 rfl rfl) h0
  obtain ⟨a1, rfl, rfl, rfl⟩ := open_bool Try.underlying4 (hval 1 4 v1 rfl rfl) h1
  obtain ⟨a2, rfl, rfl, rfl⟩ := open_bool Try.underlying4 (hval 2 4 v2 rfl rfl) h2
  obtain ⟨a3, len3, cap3, rfl⟩ := okWide_slice Try.underlying22 (hval 3 22 v3 rfl rfl)
  have k3 := h3
  have lt3 : ∀ x ∈ p3, x.block < W.heap.size := by obtain ⟨m, hm⟩ := k3; exact DataW.trod_lt m _ _ _ hm
  obtain ⟨z3, w3⟩ : ∃ zs, IsRow .u8 W a3 len3 cap3 zs := by
    obtain ⟨fuel, hf⟩ := h3
    rcases open_ints Try.underlying22 Try.underlying5 (by kernel_rfl) hf with ⟨hcs, _⟩ | ⟨x, l, c, zs, hcs, _, hl, hm, hz, _, hcell, hwz⟩
    · simp [Value.cells] at hcs
      obtain ⟨rfl, rfl, rfl⟩ := hcs
      exact ⟨[], .inl ⟨rfl, rfl, rfl, rfl⟩⟩
    · simp [Value.cells] at hcs
      obtain ⟨rfl, rfl, rfl⟩ := hcs
      exact ⟨zs, .inr ⟨_, rfl, hl, hm, by simpa using hz, hcell, hwz⟩⟩
  clear hA0 hval0
  refine (walk a0 a1 a2 a3 len3 cap3 z3 W w0 w3).mono fun e W' ⟨he, bel⟩ => ?_
  subst he
  exact ⟨_, rfl, _, _, _, [], _, [], hW', trodAll_mk1 (shut_bool Try.underlying4 _), (trodAll_cons_mk (shut_int Try.underlying3 w0) (trodAll_cons_mk (shut_bool Try.underlying4 _) (trodAll_cons_mk (shut_bool Try.underlying4 _) (trodAll_cons_mk (Below.trod laidOut (by kernel_rfl) (of_decide_eq_true (by kernel_rfl)) k3 bel lt3) trodAll_mk0)))), rfl, bel.frame _, fun h => by cases h⟩

theorem over : Rows.fnBracketEndMatchesByteScanRow.holds Try.pinned (OpenSpec.ofChange Rows.fnBracketEndMatchesByteScanSpec) :=
  OpenClaim.holds_of_wide 3 Try.f3 rfl rfl rfl rfl rfl rfl rfl ⟨rfl, rfl, rfl, rfl, rfl⟩ rfl rfl rfl rfl rfl (by kernel_rfl) Try.func3 (by kernel_rfl)
    (of_decide_eq_true (by kernel_rfl)) (by unfold Func.isWrapper; first | (rw [if_pos (by decide +kernel)]; kernel_rfl) | (rw [if_neg (by decide +kernel)]; exact ⟨rfl, rfl⟩))
    (fun os started H enc _ => lifted os started H enc)

/-- ████ THE STATEMENT ████ -/
theorem proved : Rows.FnBracketEndMatchesByteScanSaid := over
#print axioms proved
end Go.Proofs.Qxb6602558a.fnBracketEndMatchesByteScan

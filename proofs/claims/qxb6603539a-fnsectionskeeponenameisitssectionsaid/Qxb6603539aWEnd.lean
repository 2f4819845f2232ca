import Derived.Test.Qxb6603539aWKey
import Derived.Test.Qxb6603539aWCfg
import Derived.Deep.LoopGhost
namespace Go.Proofs.Qxb6603539a.Ds
open Go.RowKit

/-- The end of the entry at place i, after d lines more. -/
def eE (ls : List Ln) (i : Nat) : Nat → Nat
  | 0 => i + 1
  | d + 1 => if (at' ls (i + 1 + d)).k = 4 then i + 1 + d + 1 else eE ls i d
theorem eE_yes {ls : List Ln} {i d : Nat} (h : (at' ls (i + 1 + d)).k = 4) : eE ls i (d + 1) = i + 1 + d + 1 := by unfold eE; rw [if_pos h]
theorem eE_no {ls : List Ln} {i d : Nat} (h : (at' ls (i + 1 + d)).k ≠ 4) : eE ls i (d + 1) = eE ls i d := by
  conv => lhs; unfold eE
  rw [if_neg h]
theorem eE_bd (ls : List Ln) (i : Nat) : ∀ d, i + 1 ≤ eE ls i d ∧ eE ls i d ≤ i + 1 + d
  | 0 => by unfold eE; omega
  | d + 1 => by
    have ih := eE_bd ls i d
    by_cases h : (at' ls (i + 1 + d)).k = 4
    · rw [eE_yes h]; omega
    · rw [eE_no h]; omega
/-- How many lines the walk from place i passes. -/
def eN (ls : List Ln) (i : Nat) : Nat := upto (fun d => decide ((at' ls (i + 1 + d)).k = 4 ∨ (at' ls (i + 1 + d)).k = 0 ∨ (at' ls (i + 1 + d)).k = 1)) (ls.length - (i + 1)) 0
def eEnd (ls : List Ln) (i : Nat) : Nat := eE ls i (eN ls i)
theorem eN_le (ls : List Ln) (i : Nat) : eN ls i ≤ ls.length - (i + 1) := by
  unfold eN; have := upto_hi (fun d => decide ((at' ls (i + 1 + d)).k = 4 ∨ (at' ls (i + 1 + d)).k = 0 ∨ (at' ls (i + 1 + d)).k = 1)) (ls.length - (i + 1)) 0; omega
theorem eN_in {ls : List Ln} {i d : Nat} (h : d < eN ls i) : (at' ls (i + 1 + d)).k = 4 ∨ (at' ls (i + 1 + d)).k = 0 ∨ (at' ls (i + 1 + d)).k = 1 := by
  have := upto_in (fun d => decide ((at' ls (i + 1 + d)).k = 4 ∨ (at' ls (i + 1 + d)).k = 0 ∨ (at' ls (i + 1 + d)).k = 1)) _ 0 d (Nat.zero_le _) h
  simpa using this
theorem eN_stop {ls : List Ln} {i : Nat} (h : eN ls i < ls.length - (i + 1)) : ¬ ((at' ls (i + 1 + eN ls i)).k = 4 ∨ (at' ls (i + 1 + eN ls i)).k = 0 ∨ (at' ls (i + 1 + eN ls i)).k = 1) := by
  have := upto_end (fun d => decide ((at' ls (i + 1 + d)).k = 4 ∨ (at' ls (i + 1 + d)).k = 0 ∨ (at' ls (i + 1 + d)).k = 1)) (ls.length - (i + 1)) 0 (by unfold eN at h; omega)
  simpa [eN] using this
theorem eEnd_bd (ls : List Ln) (i : Nat) (h : i < ls.length) : i + 1 ≤ eEnd ls i ∧ eEnd ls i ≤ ls.length := by
  unfold eEnd; have := eE_bd ls i (eN ls i); have := eN_le ls i; omega

set_option maxHeartbeats 1000000 in
theorem end_any (f : Fl) (i : Nat) (W : World) (hF : FileAt W f) (hl : f.ls.length ≤ 1048576) (hi : i < f.ls.length) : Calls Try.prog 44 #[.pointer (some ⟨f.m, 0, none⟩), .int .i64 i] W fun r W' => r = .returned (.int .i64 (eEnd f.ls i)) ∧ W' = W := by
  obtain ⟨m, b, ao, ls⟩ := f
  have HLs := hide hF.lies
  have hao := HLs.out.ao
  simp only at hao hl hi HLs ⊢
  obtain rfl := hao (by omega)
  clear hao
  have cm : W.cell? ⟨m, 1, none⟩ = some (.slice (some ⟨b, 0, none⟩) ls.length ls.length) := by rw [cell_of_row W _ 1 _ _ _ hF.1]; rfl
  have HNL := hide (eN_le ls i)
  have HN := hide (fun d => @eN_in ls i d)
  have HNS := hide (@eN_stop ls i)
  have HEE : Hid (eEnd ls i = eE ls i (eN ls i)) := rfl
  obtain ⟨n, hn⟩ : ∃ n, ls.length = n := ⟨_, rfl⟩
  have HLen := hide hn
  rw [hn] at cm hl hi HNL HNS
  clear hn
  generalize eN ls i = N at HNL HN HNS HEE
  generalize eEnd ls i = R at HEE
  have hw1 : IntKind.i64.wrap ((i : Int) + 1) = (i : Int) + 1 := IntWalk.i64_in _ (by omega)
  go_enter Try.func44, Try.ntmps44
  go_wp2
  go_loopg [5, 6] (n - (i + 1)) (fun g t5 t6 wx => ∃ d : Nat, i + 1 + d + g = n ∧ Hid (d ≤ N) ∧ t5 = .int .i64 (eE ls i d : Nat) ∧ t6 = .int .i64 ((i + 1 + d : Nat) : Int) ∧ wx = W)
  case atStart => exact ⟨0, by omega, Nat.zero_le _, rfl, rfl, rfl⟩
  case round =>
    obtain ⟨d, hg, HD, rfl, rfl, rfl⟩ := hrel
    by_cases hlt : i + 1 + d < n
    · have l1 := HLs.out.c1 (i + 1 + d) (by rw [HLen.out]; exact hlt)
      obtain ⟨kd, hkd⟩ : ∃ kd, (at' ls (i + 1 + d)).k = kd := ⟨_, rfl⟩
      rw [hkd] at l1
      have HK := hide hkd
      clear hkd
      have hwd : IntKind.i64.wrap (((i + 1 + d : Nat) : Int) + 1) = ((i + 1 + d : Nat) : Int) + 1 := IntWalk.i64_in _ (by omega)
      by_cases h4 : kd = 4
      · subst h4
        have HX : Hid (eE ls i (d + 1) = i + 1 + d + 1) := eE_yes HK.out
        have HD2 : Hid (d + 1 ≤ N) := by
          have h1 := HD.out
          by_cases e : d = N
          · subst e; exact absurd (Or.inl HK.out) (HNS.out (by omega))
          · show d + 1 ≤ N; omega
        go_wp2
        go_roundg (n - (i + 1 + (d + 1)))
        case measure => omega
        case rel => exact ⟨d + 1, by omega, HD2, by rw [HX.out]; go_num, by go_num, rfl⟩
      · have k4 : (kd == 4) = false := by simpa using h4
        have HX : Hid (eE ls i (d + 1) = eE ls i d) := eE_no (by rw [HK.out]; exact h4)
        by_cases h01 : kd = 0 ∨ kd = 1
        · have HD2 : Hid (d + 1 ≤ N) := by
            have h1 := HD.out
            by_cases e : d = N
            · subst e; exact absurd (Or.inr (by rw [HK.out]; exact h01)) (HNS.out (by omega))
            · show d + 1 ≤ N; omega
          rcases h01 with rfl | rfl
          all_goals
            go_wp2
            go_roundg (n - (i + 1 + (d + 1)))
            case measure => omega
            case rel => exact ⟨d + 1, by omega, HD2, by rw [HX.out], by go_num, rfl⟩
        · have k0 : (kd == 0) = false := by simp; omega
          have k1 : (kd == 1) = false := by simp; omega
          have HDN : Hid (d = N) := by
            have h1 := HD.out
            by_cases e : d < N
            · have := HN.out d e; rw [HK.out] at this; omega
            · show d = N; omega
          go_wp2
          go_ret
          exact ⟨ret_int (by rw [HEE.out, HDN.out]), rfl⟩
    · have HDN : Hid (d = N) := by have h1 := HD.out; have h2 := HNL.out; show d = N; omega
      go_wp2
      go_ret
      exact ⟨ret_int (by rw [HEE.out, HDN.out]), rfl⟩
end Go.Proofs.Qxb6603539a.Ds

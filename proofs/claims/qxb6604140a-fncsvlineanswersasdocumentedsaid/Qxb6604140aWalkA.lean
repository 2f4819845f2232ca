import Derived.Test.Qxb6604140aProg
import Derived.WalkKit
import Derived.WalkSpells
import Derived.Lib.BytesEntry
import Derived.Deep.QuietTactic
import Derived.BigQuiet
import Derived.Test.Qxb6604140aPlain
namespace Go.Proofs.Qxb6604140a.Cs
open Go.RowKit

theorem ret_int {k : IntKind} {a b : Int} (h : a = b) : Ending.returned (.int k a) = .returned (.int k b) := by rw [h]

/-- bytes.IndexByte at a slice whose cells are known. -/
theorem index_any (b o n c : Nat) (xs : List Int) (cv : Int) (w : World) (hx : xs.length = n) (hc : ∀ i, i < n → w.cell? ⟨b, o + i, none⟩ = some (.int .u8 (xs.getD i 0))) :
    Calls Try.prog 31 #[.slice (some ⟨b, o, none⟩) n c, .int .u8 cv] w fun e w' => e = .returned (.int .i64 (Lib.indexByte (Lib.bytesOf xs) cv.toNat.toUInt8)) ∧ w' = w := by
  go_enter Try.func31, Try.ntmps31
  go_wp2
  rw [run_callFunc_extern Try.func33 (by kernel_rfl) (by kernel_rfl) (by kernel_rfl) (e := Extern.BytealgIndexByte.indexByte) (by kernel_rfl), Lib.run_indexByteSlice w b o n c xs hx hc cv]
  simp only [Result.andThen]
  rw [Oper.upon_value]
  go_wp2
  go_ret
  exact ⟨rfl, rfl⟩

/-- hasLF where there is none. -/
theorem hasLF_none (ao : Option Addr) (b o n c : Nat) (w : World) (X : Nat → Int) (hn : n ≤ 1048576) (ha : 0 < n → ao = some ⟨b, o, none⟩) (hc : ∀ i, i < n → w.cell? ⟨b, o + i, none⟩ = some (.int .u8 (X i))) (hno : ∀ i, i < n → X i ≠ 10) :
    Calls Try.prog 17 #[.slice ao n c] w fun e w' => e = .returned (.bool false) ∧ w' = w := by
  have HC := hide hc
  have HN := hide hno
  clear hc hno
  go_enter Try.func17, Try.ntmps17
  go_wp2
  go_loop [3] (fun t => ∃ j : Nat, j ≤ n ∧ t = .int .i64 j) (fun t => n - (intOf t).toNat)
  case atStart => exact ⟨0, Nat.zero_le _, rfl⟩
  case round =>
    obtain ⟨j, hj, rfl⟩ := hrel
    by_cases hlt : j < n
    · obtain rfl := ha (by omega)
      have c0 := HC.out j hlt
      have hx := HN.out j hlt
      obtain ⟨y, hy⟩ : ∃ y, X j = y := ⟨_, rfl⟩
      rw [hy] at c0 hx
      have t0 : (y == 10) = false := by simpa using hx
      clear hy hx
      go_wp2
      go_round
      case rel => exact ⟨j + 1, by omega, by go_num⟩
      case measure => simp [intOf]; omega
    · obtain rfl : n = j := by omega
      go_wp2
      go_ret
      exact ⟨rfl, rfl⟩

/-- sameBytes of the same bytes. -/
theorem same_any (a1 a2 : Option Addr) (b o n c1 c2 : Nat) (w : World) (X : Nat → Int) (hn : n ≤ 1048576) (h1 : 0 < n → a1 = some ⟨b, o, none⟩) (h2 : 0 < n → a2 = some ⟨b, o, none⟩) (hc : ∀ i, i < n → w.cell? ⟨b, o + i, none⟩ = some (.int .u8 (X i))) :
    Calls Try.prog 18 #[.slice a1 n c1, .slice a2 n c2] w fun e w' => e = .returned (.bool true) ∧ ∃ m, w' = w.drewN m := by
  have HC := hide hc
  clear hc
  go_enter Try.func18, Try.ntmps18
  go_wp2
  go_loopw [5] (fun t wr => ∃ j : Nat, j ≤ n ∧ t = .int .i64 j ∧ Hid (∃ m, wr = w.drewN m)) (fun t _ => n - (intOf t).toNat)
  case atStart => exact ⟨0, Nat.zero_le _, rfl, ⟨0, rfl⟩⟩
  case round =>
    obtain ⟨j, hj, rfl, HW⟩ := hrel
    have hcl : Hid (∀ p, wr.cell? p = w.cell? p) := fun p => by obtain ⟨m, rfl⟩ := HW.out; rfl
    by_cases hlt : j < n
    · obtain rfl := h1 (by omega)
      obtain rfl := h2 (by omega)
      have c0 := (hcl.out _).trans (HC.out j hlt)
      obtain ⟨y, hy⟩ : ∃ y, X j = y := ⟨_, rfl⟩
      rw [hy] at c0
      clear hy
      have hi1 : (j : Int) < (n : Int) := by omega
      have hi0 : (0 : Int) ≤ (j : Int) := by omega
      go_wp2
      go_quiet (fail)
      go_wp2
      go_roundw
      case rel => exact ⟨j + 1, by omega, by go_num, by obtain ⟨m, rfl⟩ := HW.out; exact ⟨m + nq, by rw [World.drewN_drewN]⟩⟩
      case measure => simp [intOf]; omega
    · obtain rfl : n = j := by omega
      go_wp2
      go_ret
      exact ⟨rfl, HW.out⟩
end Go.Proofs.Qxb6604140a.Cs

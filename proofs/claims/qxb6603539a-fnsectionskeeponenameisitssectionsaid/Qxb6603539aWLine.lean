import Derived.Test.Qxb6603539aProg
import Derived.WalkKit
import Derived.WalkSpells
import Derived.Deep.RegionWith
import Derived.BigRegion
import Derived.Test.Qxb6603539aWHead
namespace Go.Proofs.Qxb6603539a.Ds
open Go.RowKit

/-- Line.Indent. -/
theorem lineIndent_any (t : ByteArray) (k e : Int) (w : World) (ht : t.size ≤ maxLen) : Calls Try.prog 53 #[.agg #[.string t, .int .u8 k, .int .u8 e]] w fun r w' => r = .returned (.int .i64 (ind t)) ∧ w' = w.alloc (.cells #[.string t, .int .u8 k, .int .u8 e] 38) := by
  have HD := hide (fun w => ini_indent t w ht)
  go_enter Try.func53, Try.ntmps53
  go_wp2_with (go_at_call 62; refine (HD.out _).mono ?_; rintro e w' ⟨rfl, hw⟩; have hw' := hw.symm; subst hw')
  go_ret
  exact ⟨rfl, rfl⟩

/-- Line.Name of a line that is no header. -/
theorem lineName_no (t : ByteArray) (k e : Int) (w : World) (hk : k ≠ 2) : Calls Try.prog 60 #[.agg #[.string t, .int .u8 k, .int .u8 e]] w fun r w' => r = .returned (.string ByteArray.empty) ∧ w' = w.alloc (.cells #[.string t, .int .u8 k, .int .u8 e] 38) := by
  have t2 : (k != 2) = true := by simpa using hk
  go_enter Try.func60, Try.ntmps60
  go_wp2
  go_ret
  exact ⟨rfl, rfl⟩

set_option maxHeartbeats 1000000 in
theorem lineName_yes (t : ByteArray) (e : Int) (w : World) (ht : t.size ≤ maxLen) (hi : ind t < t.size) : Calls Try.prog 60 #[.agg #[.string t, .int .u8 2, .int .u8 e]] w fun r w' => r = .returned (.string (nameOf t)) ∧ w' = ((w.alloc (.cells #[.string t, .int .u8 2, .int .u8 e] 38)).alloc (.cells #[.string t, .int .u8 2, .int .u8 e] 38)).drew := by
  have HM := hide ht
  unfold maxLen at ht
  have HN := hide (nameOf_in hi)
  have HI : Hid (∀ w, Calls Try.prog 53 #[.agg #[.string t, .int .u8 2, .int .u8 e]] w fun r w' => r = .returned (.int .i64 (ind t)) ∧ w' = w.alloc (.cells #[.string t, .int .u8 2, .int .u8 e] 38)) := fun w => lineIndent_any t 2 e w HM.out
  have HH : Hid (∀ w, Calls Try.prog 69 #[.string (t.extract (ind t + 1) t.size)] w fun r w' => r = .returned (.tuple #[.string (hnm (t.extract (ind t + 1) t.size)), .bool (hok (t.extract (ind t + 1) t.size))]) ∧ w' = w) := fun w => head_any _ w (by have := HM.out; unfold maxLen at *; simp; omega)
  have hb1 : (0 : Int) ≤ (ind t : Int) + 1 := by omega
  have hb2 : (ind t : Int) + 1 ≤ (t.size : Int) := by omega
  have hb3 : IntKind.i64.wrap ((ind t : Int) + 1) = (ind t : Int) + 1 := IntWalk.i64_in _ (by omega)
  have hb4 : ((ind t : Int) + 1).toNat = ind t + 1 := by omega
  go_enter Try.func60, Try.ntmps60
  go_wp2
  go_region_with (first | (go_at_call 53; refine (HI.out _).mono ?_; rintro e w' ⟨rfl, rfl⟩) | (go_at_call 69; refine (HH.out _).mono ?_; rintro e w' ⟨rfl, hw⟩; have hw' := hw.symm; subst hw'))
  all_goals
    go_wp2
    go_ret
    exact ⟨ret_str HN.out.symm, rfl⟩
end Go.Proofs.Qxb6603539a.Ds

/-
  errors.New and fmt.Errorf, as DeleteSection calls them. fmt.errorf is a stop: its text is whatever F gives.
-/
import Derived.Test.Qxb6603539aFmtProg
import Derived.Stop.CallBack
import Derived.Stop.IfaceNil
import GoSem.ClaimData
import Derived.WalkKit
import Derived.WalkSpells
namespace Go.Proofs.Qxb6603539aFmt.Ds
open Go.RowKit Go.Extern.Stop Go.Stop Go.Extern

theorem call28 (args : Array Value) (w : World) : (callFunc 28 args).run Tryf.prog w = ((FmtStop.errorf #[9, 69] #[32] args).run Tryf.prog w).andThen fun v w' => .ok (.value v) w' :=
  run_callFunc_extern Tryf.func28 (by kernel_rfl) (by kernel_rfl) (by kernel_rfl) (by kernel_rfl) args w
theorem fguard (name : String) (w : World) : (FmtStop.guard name).run Tryf.prog w = .ok () w := by kernel_rfl
theorem fmt0 : FmtStop.printed? ⟨#[100, 101, 108, 101, 116, 105, 110, 103, 32, 115, 101, 99, 116, 105, 111, 110, 32, 37, 113, 32, 119, 111, 117, 108, 100, 32, 109, 97, 107, 101, 32, 108, 105, 110, 101, 32, 37, 100, 44, 32, 105, 110, 100, 101, 110, 116, 101, 100, 32, 100, 101, 101, 112, 101, 114, 32, 116, 104, 97, 110, 32, 116, 104, 101, 32, 101, 110, 116, 114, 121, 32, 111, 110, 32, 108, 105, 110, 101, 32, 37, 100, 44, 32, 99, 111, 110, 116, 105, 110, 117, 101, 32, 116, 104, 97, 116, 32, 101, 110, 116, 114, 121, 39, 115, 32, 118, 97, 108, 117, 101]⟩ 3 = some [(0, 113, false), (1, 100, false), (2, 100, false)] := by kernel_rfl
theorem fmt0r (w : World) : (FmtDoors.printed ⟨#[100, 101, 108, 101, 116, 105, 110, 103, 32, 115, 101, 99, 116, 105, 111, 110, 32, 37, 113, 32, 119, 111, 117, 108, 100, 32, 109, 97, 107, 101, 32, 108, 105, 110, 101, 32, 37, 100, 44, 32, 105, 110, 100, 101, 110, 116, 101, 100, 32, 100, 101, 101, 112, 101, 114, 32, 116, 104, 97, 110, 32, 116, 104, 101, 32, 101, 110, 116, 114, 121, 32, 111, 110, 32, 108, 105, 110, 101, 32, 37, 100, 44, 32, 99, 111, 110, 116, 105, 110, 117, 101, 32, 116, 104, 97, 116, 32, 101, 110, 116, 114, 121, 39, 115, 32, 118, 97, 108, 117, 101]⟩ 3).run Tryf.prog w = .ok [(0, 113, false), (1, 100, false), (2, 100, false)] w := by kernel_rfl
def shape9 : List UInt8 := [12, 6, 0, 0, 0, 0, 0, 0, 0, 115, 116, 114, 105, 110, 103]
theorem op9 (name : String) (x : ByteArray) (w : World) : (FmtStop.operand name false 113 false (.iface 9 (.string x))).run Tryf.prog w = .ok (shape9, FmtStop.pack x.data.toList) w := by kernel_rfl
theorem op9w (name : String) (x : ByteArray) (w : World) : (FmtStop.operand name true 113 false (.iface 9 (.string x))).run Tryf.prog w = .ok (shape9, FmtStop.pack x.data.toList) w := by kernel_rfl
def shape3 : List UInt8 := [5, 3, 0, 0, 0, 0, 0, 0, 0, 105, 110, 116]
theorem op3 (name : String) (x : Int) (w : World) : (FmtStop.operand name false 100 false (.iface 3 (.int .i64 x))).run Tryf.prog w = .ok (shape3, Go.Extern.Stop.digits 8 (x % 2 ^ 64).toNat) w := by kernel_rfl
theorem op3w (name : String) (x : Int) (w : World) : (FmtStop.operand name true 100 false (.iface 3 (.int .i64 x))).run Tryf.prog w = .ok (shape3, Go.Extern.Stop.digits 8 (x % 2 ^ 64).toNat) w := by kernel_rfl
theorem ptrE (w : World) : (FmtStop.ptrTo "errors.errorString").run Tryf.prog w = .ok 64 w := by kernel_rfl
theorem elemE (w : World) : (elemOf 64).run Tryf.prog w = .ok 66 w := by kernel_rfl
theorem isErr (w : World) : (FmtDoors.textMethod 64 "Error").run Tryf.prog w = .ok true w := by kernel_rfl

attribute [local go_sem] call28 fguard fmt0 fmt0r op9 op9w op3 op3w ptrE elemE isErr

theorem errorf_any (F : Interp) (sec : ByteArray) (x y : Int) (g : Nat) (w : World) (hF : F.answers w.tape)
    (hc0 : w.cell? ⟨g, 0, none⟩ = some (.iface 9 (.string sec))) (hc1 : w.cell? ⟨g, 1, none⟩ = some (.iface 3 (.int .i64 x))) (hc2 : w.cell? ⟨g, 2, none⟩ = some (.iface 3 (.int .i64 y))) :
    Calls Tryf.prog 20 #[.string ⟨#[100, 101, 108, 101, 116, 105, 110, 103, 32, 115, 101, 99, 116, 105, 111, 110, 32, 37, 113, 32, 119, 111, 117, 108, 100, 32, 109, 97, 107, 101, 32, 108, 105, 110, 101, 32, 37, 100, 44, 32, 105, 110, 100, 101, 110, 116, 101, 100, 32, 100, 101, 101, 112, 101, 114, 32, 116, 104, 97, 110, 32, 116, 104, 101, 32, 101, 110, 116, 114, 121, 32, 111, 110, 32, 108, 105, 110, 101, 32, 37, 100, 44, 32, 99, 111, 110, 116, 105, 110, 117, 101, 32, 116, 104, 97, 116, 32, 101, 110, 116, 114, 121, 39, 115, 32, 118, 97, 108, 117, 101]⟩, .slice (some ⟨g, 0, none⟩) 3 3] w fun e w' => (∃ v, e = .returned (.iface 64 v)) ∧ Below w.heap.size w w' := by
  have hF' := answers_open hF
  go_enter Tryf.func20, Tryf.ntmps20
  go_wp2
  go_ret
  exact ⟨⟨_, rfl⟩, ((Below.refl _ _).alloc (Nat.le_refl _) _).drew⟩

theorem new_any (s : ByteArray) (w : World) : Calls Tryf.prog 16 #[.string s] w fun e w' => (∃ v, e = .returned (.iface 64 v)) ∧ Below w.heap.size w w' := by
  go_enter Tryf.func16, Tryf.ntmps16
  go_wp2
  go_ret
  exact ⟨⟨_, rfl⟩, (Below.refl _ _).alloc (Nat.le_refl _) _⟩
end Go.Proofs.Qxb6603539aFmt.Ds

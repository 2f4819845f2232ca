import Derived.Test.Qxb6603539aIdx
import Derived.Test.Qxb6603539aWCfg
namespace Go.Proofs.Qxb6603539a.Ds
open Go.RowKit

/-- An entry goes into its section. -/
def ent (S : List Sc) (nm key v : ByteArray) : List Sc :=
  addVal (opk (opn S nm) (sidx (opn S nm) nm) key) (sidx (opn S nm) nm) (kidx (sat (opk (opn S nm) (sidx (opn S nm) nm) key) (sidx (opn S nm) nm)).ks key) v
section
variable (kp : ByteArray → Bool) (keyT : ByteArray → ByteArray) (EV : List Ln → Nat → ByteArray)
def foldE (ls : List Ln) (nm : ByteArray) (S : List Sc) (is : List Nat) : List Sc := is.foldl (fun S i => ent S nm (keyT (at' ls i).t) (EV ls i)) S
def opH (S : List Sc) (x : Part) : List Sc := if 0 ≤ x.h then opn S x.nm else S
def stepP (S : List Sc) (y : Fl × Part) : List Sc := if kp y.2.nm = true then foldE keyT EV y.1.ls y.2.nm (opH S y.2) (entsOf y.1.ls y.2) else S
def foldP (S : List Sc) (ys : List (Fl × Part)) : List Sc := ys.foldl (stepP kp keyT EV) S
theorem foldE_snoc (ls : List Ln) (nm : ByteArray) (S : List Sc) (is : List Nat) (i : Nat) : foldE keyT EV ls nm S (is ++ [i]) = ent (foldE keyT EV ls nm S is) nm (keyT (at' ls i).t) (EV ls i) := by simp [foldE]
theorem foldP_snoc (S : List Sc) (ys : List (Fl × Part)) (y : Fl × Part) : foldP kp keyT EV S (ys ++ [y]) = stepP kp keyT EV (foldP kp keyT EV S ys) y := by simp [foldP]
end
end Go.Proofs.Qxb6603539a.Ds

/-
  THE WALKS of FnDotPeelsLastTermAndIsSymmetric: float '+' and '*' as the walk may take them: a NaN's bits are drawn from the tape, so the answer is told by its kind alone.
-/
import Derived.Test.Qxb6603642aModsRows
import Derived.Test.Qxb6603642aModsDotLaw
import Derived.WalkKit
import Derived.WalkSpells
import Derived.WalkLawsBesides
namespace Go.Proofs.Qxb6603642aMods
open Go.RowKit Plain

/-- the bits that the model draws for a NaN -/
def nanAt (w : World) (x y : Nat) : Nat := (Question.nanBits .f64 x y).cut (w.tape w.drawn (.nanBits .f64 x y))
def addV (w : World) (x y : Nat) : Nat := (Ieee.double.add x y).getD (nanAt w x y)
def mulV (w : World) (x y : Nat) : Nat := (Ieee.double.mul x y).getD (nanAt w x y)
/-- how many draws: none where the operation is valid, else one -/
def addN (x y : Nat) : Nat := if (Ieee.double.add x y).isSome then 0 else 1
def mulN (x y : Nat) : Nat := if (Ieee.double.mul x y).isSome then 0 else 1

theorem nanAt_nan (w : World) (x y : Nat) : nanB (nanAt w x y) = true := drawn_nan _

theorem cl_addV (w : World) (x y : Nat) : cl (addV w x y) = addC (cl x) (cl y) := by
  unfold addV
  cases h : Ieee.double.add x y with
  | some r => exact cl_add_some h
  | none => exact cl_add_none h (nanAt_nan w x y)
theorem cl_mulV (w : World) (x y : Nat) : cl (mulV w x y) = mulC (cl x) (cl y) := by
  unfold mulV
  cases h : Ieee.double.mul x y with
  | some r => exact cl_mul_some h
  | none => exact cl_mul_none h (nanAt_nan w x y)

theorem run_add (P : Program) (t : TypeId) (x y : Nat) (w : World) : (binOp .add t (.float .f64 x) (.float .f64 y)).run P w = .ok (.float .f64 (addV w x y)) (w.drewN (addN x y)) := by
  unfold addV addN
  cases h : Ieee.double.add x y with
  | some r => simpa [World.drewN_zero] using run_float_arith w .add t .f64 x y r h
  | none =>
    have h' : FloatKind.f64.format.add x y = none := h
    simp [binOp, Op.floatArith, h', nanAt, Question.forced]
    rfl
theorem run_mul (P : Program) (t : TypeId) (x y : Nat) (w : World) : (binOp .mul t (.float .f64 x) (.float .f64 y)).run P w = .ok (.float .f64 (mulV w x y)) (w.drewN (mulN x y)) := by
  unfold mulV mulN
  cases h : Ieee.double.mul x y with
  | some r => simpa [World.drewN_zero] using run_float_arith w .mul t .f64 x y r h
  | none =>
    have h' : FloatKind.f64.format.mul x y = none := h
    simp [binOp, Op.floatArith, h', nanAt, Question.forced]
    rfl
/-- the store of a float (the kit has the kinds beside it) -/
theorem run_store_float (P : Program) (w : World) (a : Addr) (m : Mode) (x : Nat) : (store a (.float .f64 x) m).run P w = stored P w a (.float .f64 x) m := run_store P w a _ m rfl

end Go.Proofs.Qxb6603642aMods

import Derived.Test.YbulkexuaRows
import Derived.WalkKit
import Derived.ProofKit
import Derived.WalkSpells
import Derived.WalkLawsBesides
import Derived.Laws.FloatArith
import Derived.Laws.NewFold
set_option linter.unusedVariables false
namespace Go.Proofs.Ybulkexua
open Go.RowKit

/-! ### float64 up to a NaN's bits -/
/-- The word is a NaN's. -/
def isN (x : Nat) : Bool := (Ieee.double.read x).isNaN
/-- A result that is allowed. -/
def Res (op : BinOp) (x y r : Nat) : Prop := match floatBits op .f64 x y with | some s => r = s | none => isN r = true
/-- What the operation gives in a world, and how often it draws. -/
def fop (op : BinOp) (x y : Nat) (w : World) : Nat := match floatBits op .f64 x y with | some s => s | none => (Question.nanBits .f64 x y).cut (w.tape w.drawn (.nanBits .f64 x y))
def fdr (op : BinOp) (x y : Nat) : Nat := match floatBits op .f64 x y with | some _ => 0 | none => 1

theorem isN_cut (x y t : Nat) : isN ((Question.nanBits .f64 x y).cut t) = true := by
  have h1 : (Question.nanBits .f64 x y).cut t = (t % 2) * 9223372036854775808 + 9218868437227405312 + 1 + (t / 2) % 4503599627370495 := rfl
  have h2 : Ieee.double.signWeight = 9223372036854775808 := by decide
  have h3 : Ieee.double.binade = 4503599627370496 := by decide
  have h4 : Ieee.double.infRung = 9218868437227405312 := by decide
  rw [h1]
  unfold isN Ieee.Format.read
  simp only [h2, h3, h4]
  have e : ((t % 2) * 9223372036854775808 + 9218868437227405312 + 1 + (t / 2) % 4503599627370495) % 9223372036854775808 = 9218868437227405312 + 1 + (t / 2) % 4503599627370495 := by omega
  rw [e, if_neg (by omega), if_neg (by omega), if_neg (by omega)]
  rfl
theorem res_fop (op : BinOp) (x y : Nat) (w : World) : Res op x y (fop op x y w) := by
  unfold Res fop
  cases h : floatBits op .f64 x y with
  | some s => rfl
  | none => exact isN_cut x y _
theorem run_fop (op : BinOp) (hop : op = .quo ∨ op = .mul ∨ op = .sub) (t : TypeId) (x y : Nat) (w : World) : (binOp op t (.float .f64 x) (.float .f64 y)).run Yba.prog w = .ok (.float .f64 (fop op x y w)) (w.drewN (fdr op x y)) := by
  unfold fop fdr
  cases h : floatBits op .f64 x y with
  | some s => simpa [World.drewN] using run_float_arith (P := Yba.prog) w op t .f64 x y s h
  | none =>
    rcases hop with rfl | rfl | rfl
    all_goals
      have h' := h
      unfold floatBits at h'
      simp only at h'
      simp [binOp, Op.floatArith, h', Question.forced]
      try rfl

theorem floatBits_nan (op : BinOp) (x y : Nat) (hop : op = .quo ∨ op = .mul ∨ op = .sub) (h : isN x = true ∨ isN y = true) : floatBits op .f64 x y = none := by
  unfold isN at h
  have hf : FloatKind.f64.format = Ieee.double := rfl
  rcases hop with rfl | rfl | rfl
  all_goals
    simp only [floatBits, hf, Ieee.Format.div, Ieee.Format.mul, Ieee.Format.sub]
    cases hx : Ieee.double.read x <;> cases hy : Ieee.double.read y <;> simp_all [Ieee.Datum.isNaN, Ieee.Datum.quotient, Ieee.Datum.product, Ieee.Datum.sum, Ieee.Datum.opposite]

/-- Equal, up to a NaN's bits. -/
def Feq (x y : Nat) : Prop := x = y ∨ (isN x = true ∧ isN y = true)
theorem Feq.refl (x : Nat) : Feq x x := .inl rfl
theorem res_congr {op : BinOp} (hop : op = .quo ∨ op = .mul ∨ op = .sub) {x y x' y' r r' : Nat} (h : Res op x y r) (h' : Res op x' y' r') (hx : Feq x x') (hy : Feq y y') : Feq r r' := by
  have both : floatBits op .f64 x y = none → floatBits op .f64 x' y' = none → Feq r r' := by
    intro e e'
    unfold Res at h h'
    rw [e] at h
    rw [e'] at h'
    exact .inr ⟨h, h'⟩
  rcases hx with rfl | ⟨a, b⟩
  · rcases hy with rfl | ⟨a, b⟩
    · unfold Res at h h'
      cases e : floatBits op .f64 x y with
      | some s => rw [e] at h h'; exact .inl (h.trans h'.symm)
      | none => exact both e e
    · exact both (floatBits_nan op _ _ hop (.inr a)) (floatBits_nan op _ _ hop (.inr b))
  · exact both (floatBits_nan op _ _ hop (.inl a)) (floatBits_nan op _ _ hop (.inl b))

theorem order_self (x : Nat) (h : isN x = false) : Ieee.double.order x x = some .eq := by
  unfold isN at h
  unfold Ieee.Format.order
  cases hx : Ieee.double.read x with
  | nan s f => rw [hx] at h; cases h
  | infinity s => simp [Ieee.Datum.order]
  | number s m e => simp [Ieee.Datum.order]
theorem order_nan (x : Nat) (h : isN x = true) : Ieee.double.order x x = none := by
  unfold isN at h
  unfold Ieee.Format.order
  cases hx : Ieee.double.read x with
  | nan s f => rfl
  | infinity s => rw [hx] at h; cases h
  | number s m e => rw [hx] at h; cases h
end Go.Proofs.Ybulkexua

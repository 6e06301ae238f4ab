import Derived.Test.YbulkexuaWalk
import Derived.Laws.Externs
set_option linter.unusedVariables false
namespace Go.Proofs.Ybulkexua
open Go.RowKit

theorem bits_run (x : Nat) (w : World) : (callFunc 6 #[.float .f64 x]).run Yba.prog w = .ok (.value (.int .u64 x)) w := by
  rw [run_callFunc_extern (P := Yba.prog) (f := 6) (e := Extern.MathFloatBits.float64bits) Yba.func6 (by kernel_rfl) (by kernel_rfl) (by kernel_rfl) (by rfl)]
  rfl
theorem eq_same (x : Nat) (w : World) (h : isN x = false) : Calls Yba.prog 5 #[.float .f64 x, .float .f64 x] w fun e w' => e = .returned (.bool true) ∧ w = w' := by
  have h1 := order_self x h
  have hb := fun (w : World) (x : Nat) => bits_run x w
  have h2 : (FloatKind.f64.format.order x x != some Ordering.eq) = false := by rw [show FloatKind.f64.format = Ieee.double from rfl, h1]; rfl
  clear h1 h
  go_enter Yba.func5, Yba.ntmps5
  go_wp2
  go_ret
  exact ⟨rfl, rfl⟩
theorem eq_nan (x y : Nat) (w : World) (h : isN x = true) (h' : isN y = true) : Calls Yba.prog 5 #[.float .f64 x, .float .f64 y] w fun e w' => e = .returned (.bool true) ∧ w = w' := by
  have h1 : (FloatKind.f64.format.order x x != some Ordering.eq) = true := by rw [show FloatKind.f64.format = Ieee.double from rfl, order_nan x h]; rfl
  have h2 : (FloatKind.f64.format.order y y != some Ordering.eq) = true := by rw [show FloatKind.f64.format = Ieee.double from rfl, order_nan y h']; rfl
  clear h h'
  go_enter Yba.func5, Yba.ntmps5
  go_wp2
  go_ret
  exact ⟨rfl, rfl⟩
theorem eq_calls (x y : Nat) (w : World) (h : Feq x y) : Calls Yba.prog 5 #[.float .f64 x, .float .f64 y] w fun e w' => e = .returned (.bool true) ∧ w = w' := by
  rcases h with rfl | ⟨a, b⟩
  · cases e : isN x with
    | true => exact eq_nan x x w e e
    | false => exact eq_same x w e
  · exact eq_nan x y w a b
end Go.Proofs.Ybulkexua

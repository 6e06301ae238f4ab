import Derived.Test.YbulkevkcRows
import Derived.WalkKit
import Derived.ProofKit
import Derived.WalkSpells
import Derived.WalkLawsBesides
import Derived.Laws.StructEq
import Derived.Laws.BitsAllLaws
import Derived.Deep.QuietTactic
import Derived.BigQuiet
import Derived.Deep.MidRow
namespace Go.Proofs.Ybulkevkc
open Go.RowKit

/-! ### Arrays of octets, by value: no cell is named. -/
/-- n octets. -/
def Octets (hs : Array Value) (n : Nat) : Prop := hs.size = n ∧ ∀ i, i < n → ∃ x : Int, hs[i]? = some (.int .u8 x)

theorem equalIn_octets {P : Program} (w : World) (d : Nat) (t e : TypeId) (n : Nat) (ht : P.underlying t = some (.array n e)) (he : P.underlying e = some (.int .u8)) (hsz : ∀ w, (sizeOf e).run P w = .ok 1 w)
    (xs : Array Value) (hx : Octets xs n) : (Op.equalIn (d + 2) t (.agg xs) (.agg xs)).run P w = .ok true w := by
  rw [Op.equalIn]
  simp only [Sem.run_bind, run_underlying ht, Result.andThen_ok, hsz, Std.Legacy.Range.forIn_eq_forIn_range', Std.Legacy.Range.size, Nat.sub_zero, Nat.add_sub_cancel, Nat.div_one]
  have hl : ∀ i ∈ List.range' 0 n 1, i < n := fun i hi => by simpa using (List.mem_range'_1.1 hi).2
  generalize List.range' 0 n 1 = l at hl ⊢
  induction l with
  | nil => simp
  | cons i l ih =>
    obtain ⟨x, hxi⟩ := hx.2 i (hl i (by simp))
    have px : (part e xs (i * 1)).run P w = .ok (.int .u8 x) w := by simp [part, isAgg, run_underlying he, hxi]
    have pe : (Op.equalIn (d + 1) e (.int .u8 x) (.int .u8 x)).run P w = .ok true w := by rw [run_equalIn_int w d e .u8 .u8 _ _ he]; simp
    simp only [List.forIn_cons, Sem.run_bind, px, pe, Result.andThen_ok, Bool.not_true, Bool.false_eq_true, if_false, Sem.run_pure]
    exact ih fun j hj => hl j (by simp [hj])

theorem eql_octets {P : Program} (w : World) (t e : TypeId) (n : Nat) (ht : P.underlying t = some (.array n e)) (he : P.underlying e = some (.int .u8)) (hsz : ∀ w, (sizeOf e).run P w = .ok 1 w)
    (xs : Array Value) (hx : Octets xs n) : (binOp .eql t (.agg xs) (.agg xs)).run P w = .ok (.bool true) w := by
  rw [run_eql_struct, equalIn_octets w 9998 t e n ht he hsz xs hx]; rfl
theorem neq_octets {P : Program} (w : World) (t e : TypeId) (n : Nat) (ht : P.underlying t = some (.array n e)) (he : P.underlying e = some (.int .u8)) (hsz : ∀ w, (sizeOf e).run P w = .ok 1 w)
    (xs : Array Value) (hx : Octets xs n) : (binOp .neq t (.agg xs) (.agg xs)).run P w = .ok (.bool false) w := by
  rw [run_neq_struct, equalIn_octets w 9998 t e n ht he hsz xs hx]; rfl

theorem Yba.sizeOf5 (w : World) : (sizeOf 5).run Yba.prog w = .ok 1 w := by kernel_rfl
theorem Yba.size22 : (Yba.prog.info? 22).map (·.size) = some 24 := by kernel_rfl
theorem Yba.size23 : (Yba.prog.info? 23).map (·.size) = some 16 := by kernel_rfl

/-! ### In a region that draws its order and only reads -/
section
variable {P : Program} {C : World → Prop} {o : Oper} {a : Act} {K : Act → Prop}
theorem quiet_load_mid (ty : TypeId) (x : Operand) (ho : o.op = .load ty x) (b off : Nat) (hx : a.eval x = .pointer (some ⟨b, off, none⟩)) (cs : Array Value) (d : TypeDesc) (hc : ∀ w, C w → w.rangeAt b off cs.toList)
    (hu : P.underlying ty = some d) (hd : d.isRow = true) (hi : (P.info? ty).map (·.size) = some cs.size) (hk : K (a.put o.dst (.agg cs))) : o.quiet P a C K := by
  refine ⟨.agg cs, fun w hw => ?_, hk⟩
  have h1 := run_loadVar_mid (P := P) w b off ty cs.toList d (hc w hw) hu hd (by simpa using hi)
  unfold Oper.quietAt execOp
  simp only [ho, hx, Instr.loadAt, Instr.sureAddr, Sem.run_bind, Sem.run_pure, Result.andThen_ok, h1]
  simp [Oper.quietUpon]
end
end Go.Proofs.Ybulkevkc

import Derived.Test.YbulkexdwRows
import Derived.WalkKit
import Derived.ProofKit
import Derived.WalkSpells
import Derived.WalkLawsBesides
import Derived.Laws.Pointers
import Derived.Laws.StructEq
import Derived.ChangeKeysEq
namespace Go.Proofs.Ybulkexdw
open Go.RowKit

theorem eq74 (a b : Int) (d : Nat) (w : World) : (Op.equalIn (d + 2) 74 (.agg #[.int .i64 a, .int .i64 b]) (.agg #[.int .i64 a, .int .i64 b])).run Yba.prog w = .ok true w := by
  obtain ⟨i, hi⟩ : ∃ i, Yba.prog.info? 2 = some i := Option.isSome_iff_exists.1 (by kernel_rfl)
  rw [run_equalIn_array (d := d + 1) (hu := Yba.underlying74) (hi := hi)]
  have hc : Yba.prog.cellsOf 2 = 1 := by kernel_rfl
  simp [Op.eqItems, hc, List.range_succ, part, isAgg, run_underlying Yba.underlying2, run_equalIn_int _ d 2 .i64 .i64 _ _ Yba.underlying2]

theorem eq78 (a1 a2 a3 a4 a5 a6 r : Int) (w : World) :
    (binOp .eql 78 (.agg #[.pointer none, .int .i64 a4, .pointer none, .int .i64 a5, .int .i64 a6, .int .u8 a1, .int .i64 a2, .int .i64 a3, .int .u8 r]) (.agg #[.pointer none, .int .i64 a4, .pointer none, .int .i64 a5, .int .i64 a6, .int .u8 a1, .int .i64 a2, .int .i64 a3, .int .u8 r])).run Yba.prog w = .ok (.bool true) w := by
  have h74 := eq74 a2 a3 9997
  have h76 : ∀ w, (Op.equalIn 9999 76 (.pointer none) (.pointer none)).run Yba.prog w = .ok true w := fun w => run_equalIn_pointer_nil w 9998 76 none (by kernel_rfl)
  have h52 : ∀ w, (Op.equalIn 9998 52 (.pointer none) (.pointer none)).run Yba.prog w = .ok true w := fun w => run_equalIn_pointer_nil w 9997 52 none (by kernel_rfl)
  simp [go_sem, h74, h76, h52]
end Go.Proofs.Ybulkexdw

import Derived.Test.YbulkevkcEnd
namespace Go.Proofs.Ybulkevkc
open Go.RowKit

theorem below_one (w : World) (t : TypeId) (m : Nat) : Below w.heap.size w ((w.alloc (.cells #[] t)).drewN m) :=
  ⟨rfl, rfl, rfl, by show w.heap.size ≤ (w.alloc (.cells #[] t)).heap.size; simp, fun k hk => Below.heap_alloc w (.cells #[] t) k hk⟩

theorem method_le (w : World) : (method 183 26 (.agg #[]) "Uint32").run Yba.prog w = .ok (31, .agg #[]) w := by kernel_rfl

theorem link_le (br : Nat) (x0 x1 x2 x3 : Int) (w : World) (b0 : 0 ≤ x0 ∧ x0 ≤ 255) (b1 : 0 ≤ x1 ∧ x1 ≤ 255) (b2 : 0 ≤ x2 ∧ x2 ≤ 255) (b3 : 0 ≤ x3 ∧ x3 ≤ 255)
    (hr1 : w.cell? ⟨br, 1, none⟩ = some (.iface 26 (.agg #[])))
    (k0 : w.cell? ⟨br, 22, none⟩ = some (.int .u8 x0)) (k1 : w.cell? ⟨br, 23, none⟩ = some (.int .u8 x1)) (k2 : w.cell? ⟨br, 24, none⟩ = some (.int .u8 x2)) (k3 : w.cell? ⟨br, 25, none⟩ = some (.int .u8 x3)) :
    Calls Yba.prog 6 #[.pointer (some ⟨br, 0, none⟩)] w fun e w' => e = .returned (.int .u16 (x0 + x1 * 256)) ∧ Below w.heap.size w w' := by
  have hm := method_le
  have hv : IntKind.u16.wrap (x0 + x1 * 256 + x2 * 65536 + x3 * 16777216) = x0 + x1 * 256 := by rw [IntKind.wrap_u16]; omega
  have HV : Hid (_ = _) := hv
  clear hv
  go_enter Yba.func6, Yba.ntmps6
  go_wp2
  go_region_with (go_at_call 31; refine (le_any br 22 4 x0 x1 x2 x3 _ b0 b1 b2 b3 ?_ ?_ ?_ ?_).mono ?_ <;> first | assumption | skip; rintro e w' ⟨rfl, m, rfl⟩)
  all_goals go_wp2
  all_goals go_ret
  all_goals exact ⟨ret_int HV.out, below_one w 26 _⟩

theorem method_be (w : World) : (method 183 30 (.agg #[]) "Uint32").run Yba.prog w = .ok (36, .agg #[]) w := by kernel_rfl

theorem link_be (br : Nat) (x0 x1 x2 x3 : Int) (w : World) (b0 : 0 ≤ x0 ∧ x0 ≤ 255) (b1 : 0 ≤ x1 ∧ x1 ≤ 255) (b2 : 0 ≤ x2 ∧ x2 ≤ 255) (b3 : 0 ≤ x3 ∧ x3 ≤ 255)
    (hr1 : w.cell? ⟨br, 1, none⟩ = some (.iface 30 (.agg #[])))
    (k0 : w.cell? ⟨br, 22, none⟩ = some (.int .u8 x0)) (k1 : w.cell? ⟨br, 23, none⟩ = some (.int .u8 x1)) (k2 : w.cell? ⟨br, 24, none⟩ = some (.int .u8 x2)) (k3 : w.cell? ⟨br, 25, none⟩ = some (.int .u8 x3)) :
    Calls Yba.prog 6 #[.pointer (some ⟨br, 0, none⟩)] w fun e w' => e = .returned (.int .u16 (x3 + x2 * 256)) ∧ Below w.heap.size w w' := by
  have hm := method_be
  have hv : IntKind.u16.wrap (x3 + x2 * 256 + x1 * 65536 + x0 * 16777216) = x3 + x2 * 256 := by rw [IntKind.wrap_u16]; omega
  have HV : Hid (_ = _) := hv
  clear hv
  go_enter Yba.func6, Yba.ntmps6
  go_wp2
  go_region_with (go_at_call 36; refine (be_any br 22 4 x0 x1 x2 x3 _ b0 b1 b2 b3 ?_ ?_ ?_ ?_).mono ?_ <;> first | assumption | skip; rintro e w' ⟨rfl, m, rfl⟩)
  all_goals go_wp2
  all_goals go_ret
  all_goals exact ⟨ret_int HV.out, below_one w 30 _⟩

end Go.Proofs.Ybulkevkc

import Derived.Test.YbulkevkcOrd
import Derived.Deep.RegionWith
namespace Go.Proofs.Ybulkevkc
open Go.RowKit

theorem method_ord (a : Addr) (w : World) : (method 183 40 (.pointer (some a)) "Uint32").run Yba.prog w = .ok (44, .pointer (some a)) w := by kernel_rfl

theorem link_ord (bo br : Nat) (v : Int) (b0 b1 b2 b3 : Value) (w : World)
    (hr1 : w.cell? ⟨br, 1, none⟩ = some (.iface 40 (.pointer (some ⟨bo, 0, none⟩))))
    (hv : w.cell? ⟨bo, 0, none⟩ = some (.int .u32 v)) (hc : w.cell? ⟨bo, 1, none⟩ = some (.int .i64 0)) (hg : w.cell? ⟨bo, 2, none⟩ = some (.slice none 0 0))
    (f1 : w.frozen? ⟨bo, 1, none⟩ = false) (f2 : w.frozen? ⟨bo, 2, none⟩ = false)
    (hne : br ≠ bo)
    (k0 : w.cell? ⟨br, 22, none⟩ = some b0) (k1 : w.cell? ⟨br, 23, none⟩ = some b1) (k2 : w.cell? ⟨br, 24, none⟩ = some b2) (k3 : w.cell? ⟨br, 25, none⟩ = some b3)
    (o1 : ∀ u ∈ [b0, b1, b2, b3], u.oneCell' = true) :
    Calls Yba.prog 6 #[.pointer (some ⟨br, 0, none⟩)] w fun e w' => e = .returned (.int .u16 (IntKind.u16.wrap v)) ∧
      ∃ g cap, w.heap.size ≤ g ∧ w'.cell? ⟨bo, 1, none⟩ = some (.int .i64 1) ∧ w'.cell? ⟨bo, 2, none⟩ = some (.slice (some ⟨g, 0, none⟩) 4 cap) ∧ w'.cell? ⟨g, 0, none⟩ = some b0 ∧ w'.cell? ⟨g, 1, none⟩ = some b1 ∧
        w'.cell? ⟨g, 2, none⟩ = some b2 ∧ w'.cell? ⟨g, 3, none⟩ = some b3 ∧ Below bo w w' ∧ ∀ k, k < w.heap.size → k ≠ bo → w'.heap[k]? = w.heap[k]? := by
  have hm := method_ord ⟨bo, 0, none⟩
  go_enter Yba.func6, Yba.ntmps6
  go_wp2
  go_region_with (go_at_call 44; refine (ord_uint32 bo v br 22 4 b0 b1 b2 b3 _ ?_ ?_ ?_ ?_ ?_ hne ?_ ?_ ?_ ?_ o1).mono ?_ <;> first | assumption | skip; rintro e w' ⟨rfl, g, cap, q1, q2, q3, q4, q5, q6, q7, q8, q9⟩)
  all_goals go_wp2
  all_goals go_ret
  all_goals exact ⟨rfl, g, cap, q1, q2, q3, q4, q5, q6, q7, (Below.refl bo w).drew.trans q8, q9⟩
end Go.Proofs.Ybulkevkc

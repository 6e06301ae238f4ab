import Derived.Test.YbulkevkcArr
import Derived.Deep.RegionWith
namespace Go.Proofs.Ybulkevkc
open Go.RowKit

theorem ret_int {k : IntKind} {a b : Int} (h : a = b) : Ending.returned (.int k a) = .returned (.int k b) := by rw [h]
theorem or_hi (x y i : Nat) (h : x < 2 ^ i) : x ||| y * 2 ^ i = x + y * 2 ^ i := by
  rw [Nat.or_comm, Nat.mul_comm, ← Nat.two_pow_add_eq_or_of_lt h, Nat.add_comm]
theorem or32 (x y : Int) (i : Nat) (hx0 : 0 ≤ x) (hx : x < ((2 ^ i : Nat) : Int)) (hy0 : 0 ≤ y) (hs : x + y * ((2 ^ i : Nat) : Int) < 4294967296) : bits .or .u32 x (y * ((2 ^ i : Nat) : Int)) = x + y * ((2 ^ i : Nat) : Int) := by
  obtain ⟨x, rfl⟩ := Int.eq_ofNat_of_zero_le hx0
  obtain ⟨y, rfl⟩ := Int.eq_ofNat_of_zero_le hy0
  have h1 : x < 2 ^ i := by omega
  have e : ((y : Int) * ((2 ^ i : Nat) : Int)) = ((y * 2 ^ i : Nat) : Int) := (Int.natCast_mul y (2 ^ i)).symm
  rw [e] at hs ⊢
  have hj := or_hi x y i h1
  clear e h1
  generalize y * 2 ^ i = q at hs hj ⊢
  rw [u32_or_nat x q (by omega) (by omega), hj]
  omega
theorem or16 (x y : Int) (i : Nat) (hx0 : 0 ≤ x) (hx : x < ((2 ^ i : Nat) : Int)) (hy0 : 0 ≤ y) (hs : x + y * ((2 ^ i : Nat) : Int) < 65536) : bits .or .u16 x (y * ((2 ^ i : Nat) : Int)) = x + y * ((2 ^ i : Nat) : Int) := by
  obtain ⟨x, rfl⟩ := Int.eq_ofNat_of_zero_le hx0
  obtain ⟨y, rfl⟩ := Int.eq_ofNat_of_zero_le hy0
  have h1 : x < 2 ^ i := by omega
  have e : ((y : Int) * ((2 ^ i : Nat) : Int)) = ((y * 2 ^ i : Nat) : Int) := (Int.natCast_mul y (2 ^ i)).symm
  rw [e] at hs ⊢
  have hj := or_hi x y i h1
  clear e h1
  generalize y * 2 ^ i = q at hs hj ⊢
  rw [u16_or_nat x q (by omega) (by omega), hj]
  omega
theorem or16' (x y : Int) (hx : 0 ≤ x ∧ x ≤ 255) (hy : 0 ≤ y ∧ y ≤ 255) : bits .or .u16 (y * 256) x = x + y * 256 := by
  obtain ⟨x, rfl⟩ := Int.eq_ofNat_of_zero_le hx.1
  obtain ⟨y, rfl⟩ := Int.eq_ofNat_of_zero_le hy.1
  have e : ((y : Int) * 256) = ((y * 256 : Nat) : Int) := by simp
  rw [e, u16_or_nat (y * 256) x (by omega) (by omega), Nat.or_comm]
  have := or_hi x y 8 (by omega)
  simp at this
  rw [this]
  simp
theorem four (x0 x1 x2 x3 : Int) (b0 : 0 ≤ x0 ∧ x0 ≤ 255) (b1 : 0 ≤ x1 ∧ x1 ≤ 255) (b2 : 0 ≤ x2 ∧ x2 ≤ 255) (b3 : 0 ≤ x3 ∧ x3 ≤ 255) :
    bits BinOp.or IntKind.u32 (bits BinOp.or IntKind.u32 (bits BinOp.or IntKind.u32 x0 (x1 * 256)) (x2 * 65536)) (x3 * 16777216) = x0 + x1 * 256 + x2 * 65536 + x3 * 16777216 := by
  have e1 := or32 x0 x1 8 (by omega) (by omega) (by omega) (by omega)
  have e2 := or32 (x0 + x1 * 256) x2 16 (by omega) (by omega) (by omega) (by omega)
  have e3 := or32 (x0 + x1 * 256 + x2 * 65536) x3 24 (by omega) (by omega) (by omega) (by omega)
  simp only [Nat.reducePow, Int.cast_ofNat_Int] at e1 e2 e3
  rw [e1, e2, e3]

theorem le_any (b off c : Nat) (x0 x1 x2 x3 : Int) (w : World) (b0 : 0 ≤ x0 ∧ x0 ≤ 255) (b1 : 0 ≤ x1 ∧ x1 ≤ 255) (b2 : 0 ≤ x2 ∧ x2 ≤ 255) (b3 : 0 ≤ x3 ∧ x3 ≤ 255)
    (k0 : w.cell? ⟨b, off, none⟩ = some (.int .u8 x0)) (k1 : w.cell? ⟨b, off + 1, none⟩ = some (.int .u8 x1)) (k2 : w.cell? ⟨b, off + 2, none⟩ = some (.int .u8 x2)) (k3 : w.cell? ⟨b, off + 3, none⟩ = some (.int .u8 x3)) :
    Calls Yba.prog 31 #[.agg #[], .slice (some ⟨b, off, none⟩) 4 c] w fun e w' => e = .returned (.int .u32 (x0 + x1 * 256 + x2 * 65536 + x3 * 16777216)) ∧ ∃ m, w' = (w.alloc (.cells #[] 26)).drewN m := by
  have hv := four x0 x1 x2 x3 b0 b1 b2 b3
  obtain ⟨b0, b0'⟩ := b0
  obtain ⟨b1, b1'⟩ := b1
  obtain ⟨b2, b2'⟩ := b2
  obtain ⟨b3, b3'⟩ := b3
  have hb : b < w.heap.size := World.block_lt_of_cell? w _ k0
  have HV : Hid (_ = _) := hv
  clear hv
  go_enter Yba.func31, Yba.ntmps31
  go_wp2
  go_quiet (fail)
  go_wp2
  go_ret
  exact ⟨ret_int HV.out, _, rfl⟩

theorem be_any (b off c : Nat) (x0 x1 x2 x3 : Int) (w : World) (b0 : 0 ≤ x0 ∧ x0 ≤ 255) (b1 : 0 ≤ x1 ∧ x1 ≤ 255) (b2 : 0 ≤ x2 ∧ x2 ≤ 255) (b3 : 0 ≤ x3 ∧ x3 ≤ 255)
    (k0 : w.cell? ⟨b, off, none⟩ = some (.int .u8 x0)) (k1 : w.cell? ⟨b, off + 1, none⟩ = some (.int .u8 x1)) (k2 : w.cell? ⟨b, off + 2, none⟩ = some (.int .u8 x2)) (k3 : w.cell? ⟨b, off + 3, none⟩ = some (.int .u8 x3)) :
    Calls Yba.prog 36 #[.agg #[], .slice (some ⟨b, off, none⟩) 4 c] w fun e w' => e = .returned (.int .u32 (x3 + x2 * 256 + x1 * 65536 + x0 * 16777216)) ∧ ∃ m, w' = (w.alloc (.cells #[] 30)).drewN m := by
  have hv := four x3 x2 x1 x0 b3 b2 b1 b0
  obtain ⟨b0, b0'⟩ := b0
  obtain ⟨b1, b1'⟩ := b1
  obtain ⟨b2, b2'⟩ := b2
  obtain ⟨b3, b3'⟩ := b3
  have hb : b < w.heap.size := World.block_lt_of_cell? w _ k0
  have HV : Hid (_ = _) := hv
  clear hv
  go_enter Yba.func36, Yba.ntmps36
  go_wp2
  go_quiet (fail)
  go_wp2
  go_ret
  exact ⟨ret_int HV.out, _, rfl⟩
end Go.Proofs.Ybulkevkc

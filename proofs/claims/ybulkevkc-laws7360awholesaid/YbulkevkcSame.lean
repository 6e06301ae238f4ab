import Derived.Test.YbulkevkcArr
namespace Go.Proofs.Ybulkevkc
open Go.RowKit

theorem same_nil (c : Nat) (w : World) : Calls Yba.prog 7 #[.slice none 0 0, .slice none 0 c] w fun e w' => e = .returned (.bool true) ∧ ∃ m, w' = w.drewN m := by
  have hq := fun (w : World) (a : Option Addr) (n c : Nat) => Lib.run_eql_slice_nil (P := Yba.prog) w 24 5 a n c 0 0 Yba.underlying24
  go_enter Yba.func7, Yba.ntmps7
  go_wp2
  go_loop [5] (fun i => i = .int .i64 0) (fun _ => 0)
  case atStart => rfl
  case round =>
    obtain rfl := hrel
    go_wp2
    go_ret
    exact ⟨rfl, 0, rfl⟩

theorem same_none (x y : Addr) (c c' : Nat) (w : World) : Calls Yba.prog 7 #[.slice (some x) 0 c, .slice (some y) 0 c'] w fun e w' => e = .returned (.bool true) ∧ ∃ m, w' = w.drewN m := by
  have hq := fun (w : World) (a : Option Addr) (n c : Nat) => Lib.run_eql_slice_nil (P := Yba.prog) w 24 5 a n c 0 0 Yba.underlying24
  go_enter Yba.func7, Yba.ntmps7
  go_wp2
  go_loop [5] (fun i => i = .int .i64 0) (fun _ => 0)
  case atStart => rfl
  case round =>
    obtain rfl := hrel
    go_wp2
    go_ret
    exact ⟨rfl, 0, rfl⟩

theorem same_rows (b off b' off' n c c' : Nat) (z : Nat → Int) (w : World) (hn : n ≤ 1048576) (h1 : ∀ i, i < n → w.cell? ⟨b, off + i, none⟩ = some (.int .u8 (z i))) (h2 : ∀ i, i < n → w.cell? ⟨b', off' + i, none⟩ = some (.int .u8 (z i))) :
    Calls Yba.prog 7 #[.slice (some ⟨b, off, none⟩) n c, .slice (some ⟨b', off', none⟩) n c'] w fun e w' => e = .returned (.bool true) ∧ ∃ m, w' = w.drewN m := by
  have hq := fun (w : World) (a : Option Addr) (n c : Nat) => Lib.run_eql_slice_nil (P := Yba.prog) w 24 5 a n c 0 0 Yba.underlying24
  go_enter Yba.func7, Yba.ntmps7
  go_wp2
  go_loopw [5] (fun i wr => ∃ k m : Nat, k ≤ n ∧ i = .int .i64 k ∧ wr = w.drewN m) (fun i _ => n - (intOf i).toNat)
  case atStart => exact ⟨0, 0, Nat.zero_le _, rfl, rfl⟩
  case round =>
    obtain ⟨k, m, hk, rfl, rfl⟩ := hrel
    by_cases hlt : k < n
    · have a1 := h1 k hlt
      have a2 := h2 k hlt
      have hi : (k : Int) < (n : Int) := by omega
      go_wp2
      go_quiet (fail)
      go_wp2
      go_roundw
      case rel => exact ⟨k + 1, m + nq, by omega, by go_num, by simp⟩
      case measure => simp [intOf]; omega
    · go_wp2
      go_ret
      exact ⟨rfl, m, rfl⟩
end Go.Proofs.Ybulkevkc

import Derived.Test.YbulkexdwRows
import Derived.WalkKit
import Derived.ProofKit
import Derived.WalkSpells
import Derived.WalkLawsBesides
import Derived.Laws.Pointers
import Derived.Laws.LoneSync
import Derived.Deep.QuietTactic
import Derived.BigQuiet
import Derived.Deep.RegionWith
import Derived.Deep.LoopGhost
import Derived.Deep.OwnRows
import Derived.Deep.DeepFit
set_option linter.unusedVariables false
namespace Go.Proofs.Ybulkexdw
open Go.RowKit

theorem load_any (b o : Nat) (v : Int) (w : World) (h : w.cell? ⟨b, o, none⟩ = some (.int .i64 v)) : Calls Yba.prog 7 #[.pointer (some ⟨b, o, none⟩)] w fun e w' => e = .returned (.int .i64 v) ∧ w = w' := by
  have hl := run_call_load (P := Yba.prog) Yba.func12 (by kernel_rfl) (by kernel_rfl) (by kernel_rfl) .i64 (by kernel_rfl) h
  go_enter Yba.func7, Yba.ntmps7
  go_wp2
  go_ret
  exact ⟨rfl, rfl⟩

theorem upd_any (b o : Nat) (w : World) : Calls Yba.prog 49 #[.pointer (some ⟨b, o, none⟩)] w fun e w' => e = .returned (.pointer (some ⟨b, o, none⟩)) ∧ w' = w := by
  go_enter Yba.func49, Yba.ntmps49
  go_wp2
  go_ret
  exact ⟨rfl, rfl⟩

theorem method_upd (a : Addr) (w : World) : (method 253 89 (.pointer (some a)) (("example.com".push (Char.ofNat 47) ++ "weakcoin").push (Char.ofNat 47) ++ "weakcoin.updates")).run Yba.prog w = .ok (49, .pointer (some a)) w := by
  simp only [↓Char.isValue, String.reducePush, String.reduceAppend]
  kernel_rfl

def mn (a b : Int) : Int := if b < a then b else a
def mx (a b : Int) : Int := if a < b then b else a
def los (z : Nat → Int) (st : Int) : Nat → Int
  | 0 => st
  | k + 1 => mn (los z st k) (z k)
def his (z : Nat → Int) (st : Int) : Nat → Int
  | 0 => st
  | k + 1 => mx (his z st k) (z k)

theorem ret_two {a b c d : Int} (h : a = c) (h' : b = d) : Ending.returned (.tuple #[.int .i64 a, .int .i64 b]) = .returned (.tuple #[.int .i64 c, .int .i64 d]) := by rw [h, h']
theorem mn_l {a b : Int} (h : b < a) : Value.int .i64 b = .int .i64 (mn a b) := by unfold mn; rw [if_pos h]
theorem mn_r {a b : Int} (h : a ≤ b) : Value.int .i64 a = .int .i64 (mn a b) := by unfold mn; rw [if_neg (by omega)]
theorem mx_l {a b : Int} (h : a < b) : Value.int .i64 b = .int .i64 (mx a b) := by unfold mx; rw [if_pos h]
theorem mx_r {a b : Int} (h : b ≤ a) : Value.int .i64 a = .int .i64 (mx a b) := by unfold mx; rw [if_neg (by omega)]

set_option maxRecDepth 100000 in
theorem held_walk (bc bw n : Nat) (st : Int) (lo hi : Nat → Int) (w : World) (hn : n ≤ 1048576) (c5 : w.cell? ⟨bc, 5, none⟩ = some (.int .i64 st))
    (hl : ∀ i, i < n → w.cell? ⟨bw, i * 8 + 1, none⟩ = some (.int .i64 (lo i)) ∧ w.cell? ⟨bw, i * 8 + 2, none⟩ = some (.int .i64 (hi i))) :
    Calls Yba.prog 14 #[.pointer (some ⟨bc, 4, none⟩), .slice (some ⟨bw, 0, none⟩) n n] w fun e w' => e = .returned (.tuple #[.int .i64 (los lo st n), .int .i64 (his hi st n)]) ∧ ∃ m, w' = w.drewN m := by
  have hm := method_upd
  simp only [↓Char.isValue, String.reducePush, String.reduceAppend] at hm
  have HLL : Hid (∀ i, i < n → w.cell? ⟨bw, i * 8 + 1, none⟩ = some (.int .i64 (lo i)) ∧ w.cell? ⟨bw, i * 8 + 2, none⟩ = some (.int .i64 (hi i))) := hl
  clear hl
  go_enter Yba.func14, Yba.ntmps14
  go_wp2
  go_quiet (fail)
  go_wp2
  go_loopg [4, 5, 18] n (fun g a b i wr => ∃ k m : Nat, k ≤ n ∧ n ≤ k + g ∧ i = .int .i64 k ∧ a = .int .i64 (los lo st k) ∧ b = .int .i64 (his hi st k) ∧ wr = w.drewN m)
  case atStart => exact ⟨0, nq, by omega, by omega, rfl, rfl, rfl, rfl⟩
  case round =>
    obtain ⟨k, m, hk, hg, rfl, rfl, rfl, rfl⟩ := hrel
    by_cases hlt : k < n
    · have hki : (k : Int) < (n : Int) := by omega
      obtain ⟨e1, e2⟩ := HLL.out k hlt
      have HL : Hid (los lo st (k + 1) = mn (los lo st k) (lo k)) := rfl
      have HH : Hid (his hi st (k + 1) = mx (his hi st k) (hi k)) := rfl
      generalize los lo st k = A at *
      generalize his hi st k = B at *
      generalize lo k = x at *
      generalize hi k = y at *
      go_wp2_with (go_at_call 49; refine (upd_any _ _ _).mono ?_; rintro e w' ⟨rfl, rfl⟩)
      go_quiet (fail)
      go_wp2_with fail
      all_goals
        go_roundg (gk - 1)
        case measure => omega
        case rel => exact ⟨k + 1, _, by omega, by omega, by go_num, by rw [HL.out]; first | exact mn_l ‹_› | exact mn_r ‹_›, by rw [HH.out]; first | exact mx_l ‹_› | exact mx_r ‹_›, rfl⟩
    · have HKN : Hid (k = n) := by show k = n; omega
      go_wp2_with fail
      go_ret2
      exact ⟨ret_two (by rw [HKN.out]) (by rw [HKN.out]), _, rfl⟩
theorem held_any (b bw n : Nat) (st : Int) (lo hi : Nat → Int) (w : World) (hn : n ≤ 1048576) (c5 : w.cell? ⟨b, 5, none⟩ = some (.int .i64 st)) (c6 : w.cell? ⟨b, 6, none⟩ = some (.slice (some ⟨bw, 0, none⟩) n n))
    (hl : ∀ i, i < n → w.cell? ⟨bw, i * 8 + 1, none⟩ = some (.int .i64 (lo i)) ∧ w.cell? ⟨bw, i * 8 + 2, none⟩ = some (.int .i64 (hi i))) :
    Calls Yba.prog 13 #[.pointer (some ⟨b, 0, none⟩)] w fun e w' => e = .returned (.tuple #[.int .i64 (los lo st n), .int .i64 (his hi st n)]) ∧ ∃ m, w' = w.drewN m := by
  have H := fun (w' : World) (h : Hid (∃ m, w' = w.drewN m)) => show Hid (Calls Yba.prog 14 #[.pointer (some ⟨b, 4, none⟩), .slice (some ⟨bw, 0, none⟩) n n] w' fun e w'' => e = .returned (.tuple #[.int .i64 (los lo st n), .int .i64 (his hi st n)]) ∧ ∃ m, w'' = w'.drewN m) by
    obtain ⟨m, rfl⟩ := h.out
    exact held_walk b bw n st lo hi _ hn (by simpa using c5) (fun i hi' => by simpa using hl i hi')
  clear hl
  go_enter Yba.func13, Yba.ntmps13
  go_wp2
  go_quiet ((go_at_call 14; exact Calls.quiet_of (H _ ⟨_, rfl⟩).out))
  go_wp2
  go_ret2
  exact ⟨rfl, _, rfl⟩

/-- The one span. -/
def spanCells (lo hi : Int) : Array Value := #[.string ⟨#[99, 111, 117, 110, 116, 101, 114]⟩, .int .i64 lo, .int .i64 hi]
theorem wranges_any (b bw n : Nat) (st : Int) (lo hi : Nat → Int) (w : World) (hn : n ≤ 1048576) (c5 : w.cell? ⟨b, 5, none⟩ = some (.int .i64 st)) (c6 : w.cell? ⟨b, 6, none⟩ = some (.slice (some ⟨bw, 0, none⟩) n n))
    (hl : ∀ i, i < n → w.cell? ⟨bw, i * 8 + 1, none⟩ = some (.int .i64 (lo i)) ∧ w.cell? ⟨bw, i * 8 + 2, none⟩ = some (.int .i64 (hi i))) :
    Calls Yba.prog 11 #[.pointer (some ⟨b, 0, none⟩)] w fun e w' => e = .returned (.slice (some ⟨w.heap.size, 0, none⟩) 1 1) ∧ ∃ m, w' = (w.alloc (.cells (spanCells (los lo st n) (his hi st n)) 69)).drewN m := by
  have HLL : Hid (∀ i, i < n → w.cell? ⟨bw, i * 8 + 1, none⟩ = some (.int .i64 (lo i)) ∧ w.cell? ⟨bw, i * 8 + 2, none⟩ = some (.int .i64 (hi i))) := hl
  clear hl
  go_enter Yba.func11, Yba.ntmps11
  go_wp2_with (go_at_call 13; refine (held_any b bw n st lo hi w hn c5 c6 HLL.out).mono ?_; rintro e w' ⟨rfl, m, rfl⟩)
  go_ret
  exact ⟨rfl, m, rfl⟩
theorem ranges_nil (b : Nat) (w : World) (c2 : w.cell? ⟨b, 2, none⟩ = some (.pointer none)) : Calls Yba.prog 6 #[.pointer (some ⟨b, 0, none⟩)] w fun e w' => e = .returned (.slice none 0 0) ∧ w' = w := by
  go_enter Yba.func6, Yba.ntmps6
  go_wp2
  go_ret
  exact ⟨rfl, rfl⟩
theorem ranges_any (bt b bw n : Nat) (st : Int) (lo hi : Nat → Int) (w : World) (hn : n ≤ 1048576) (c2 : w.cell? ⟨bt, 2, none⟩ = some (.pointer (some ⟨b, 0, none⟩))) (c5 : w.cell? ⟨b, 5, none⟩ = some (.int .i64 st)) (c6 : w.cell? ⟨b, 6, none⟩ = some (.slice (some ⟨bw, 0, none⟩) n n))
    (hl : ∀ i, i < n → w.cell? ⟨bw, i * 8 + 1, none⟩ = some (.int .i64 (lo i)) ∧ w.cell? ⟨bw, i * 8 + 2, none⟩ = some (.int .i64 (hi i))) :
    Calls Yba.prog 6 #[.pointer (some ⟨bt, 0, none⟩)] w fun e w' => e = .returned (.slice (some ⟨w.heap.size, 0, none⟩) 1 1) ∧ ∃ m, w' = (w.alloc (.cells (spanCells (los lo st n) (his hi st n)) 69)).drewN m := by
  have HLL : Hid (∀ i, i < n → w.cell? ⟨bw, i * 8 + 1, none⟩ = some (.int .i64 (lo i)) ∧ w.cell? ⟨bw, i * 8 + 2, none⟩ = some (.int .i64 (hi i))) := hl
  clear hl
  go_enter Yba.func6, Yba.ntmps6
  go_wp2_with (go_at_call 11; refine (wranges_any b bw n st lo hi w hn c5 c6 HLL.out).mono ?_; rintro e w' ⟨rfl, m, rfl⟩)
  go_ret
  exact ⟨rfl, m, rfl⟩
end Go.Proofs.Ybulkexdw

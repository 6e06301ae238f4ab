import Derived.Test.YbulkevleRows
import Derived.WalkKit
import Derived.ProofKit
import Derived.WalkSpells
import Derived.WalkLawsBesides
import Derived.Deep.QuietTactic
import Derived.BigQuiet
import Derived.Deep.RegionWith
import Derived.Deep.DeepFit
set_option linter.unusedVariables false
namespace Go.Proofs.Ybulkevle
open Go.RowKit

/-- The sleep that follows, at least 20us. -/
def slp (s : Int) : Int := if s < 20000 then 20000 else s
/-- The next sleep once the idle wake-ups are many. -/
def dbl (s : Int) : Int := if 10000000 < 2 * slp s then 10000000 else 2 * slp s
theorem slp_bd {s : Int} (h : 0 ≤ s) (h' : s ≤ 10000000) : 20000 ≤ slp s ∧ slp s ≤ 10000000 := by unfold slp; split <;> omega
theorem dbl_bd {s : Int} (h : 0 ≤ s) (h' : s ≤ 10000000) : 20000 ≤ dbl s ∧ dbl s ≤ 10000000 := by have := slp_bd h h'; unfold dbl; split <;> omega

/-- A block of a Schedule. -/
def Sch (w : World) (b : Nat) (l i s : Int) : Prop := w.heap[b]? = some (.cells #[.int .i64 l, .int .i64 i, .int .i64 s] 29 (0, 0))
/-- Nothing but block b has turned. -/
structure Only (b : Nat) (w w' : World) : Prop where
  os : w'.os = w.os
  tape : w'.tape = w.tape
  output : w'.output = w.output
  size : w'.heap.size = w.heap.size
  block : ∀ k, k ≠ b → w'.heap[k]? = w.heap[k]?
theorem Only.refl (b : Nat) (w : World) : Only b w w := ⟨rfl, rfl, rfl, rfl, fun _ _ => rfl⟩
theorem Only.trans {b : Nat} {u v w : World} (h : Only b u v) (k : Only b v w) : Only b u w :=
  ⟨k.os.trans h.os, k.tape.trans h.tape, k.output.trans h.output, k.size.trans h.size, fun i hi => (k.block i hi).trans (h.block i hi)⟩
theorem Only.draws {b : Nat} {u v : World} (h : Only b u v) (m : Nat) : Only b u (v.drewN m) := ⟨h.os, h.tape, h.output, h.size, h.block⟩
theorem Only.put {b : Nat} {u v : World} (h : Only b u v) (j : Nat) (x : Value) : Only b u (v.setCell ⟨b, j, none⟩ x) :=
  h.trans ⟨rfl, rfl, rfl, by simp [World.setCell], fun k hk => Below.heap_setCell _ _ _ _ hk⟩
theorem Only.below {b : Nat} {u v : World} (h : Only b u v) : Below b u v := ⟨h.os, h.tape, h.output, by rw [h.size]; exact Nat.le_refl _, fun k hk => h.block k (by omega)⟩
theorem Sch.cells {w : World} {b : Nat} {l i s : Int} (h : Sch w b l i s) : w.cell? ⟨b, 0, none⟩ = some (.int .i64 l) ∧ w.cell? ⟨b, 1, none⟩ = some (.int .i64 i) ∧ w.cell? ⟨b, 2, none⟩ = some (.int .i64 s) := by
  unfold Sch at h; simp [World.cell?, h]
theorem Sch.free {w : World} {b : Nat} {l i s : Int} (h : Sch w b l i s) (j : Nat) : w.frozen? ⟨b, j, none⟩ = false := by
  unfold Sch at h; simp [World.frozen?, h]
theorem Sch.put0 {w : World} {b : Nat} {l i s : Int} (h : Sch w b l i s) (x : Int) : Sch (w.setCell ⟨b, 0, none⟩ (.int .i64 x)) b x i s := by
  unfold Sch at h ⊢; simp [World.setCell, Array.getElem?_modify, h]
theorem Sch.put1 {w : World} {b : Nat} {l i s : Int} (h : Sch w b l i s) (x : Int) : Sch (w.setCell ⟨b, 1, none⟩ (.int .i64 x)) b l x s := by
  unfold Sch at h ⊢; simp [World.setCell, Array.getElem?_modify, h]
theorem Sch.put2 {w : World} {b : Nat} {l i s : Int} (h : Sch w b l i s) (x : Int) : Sch (w.setCell ⟨b, 2, none⟩ (.int .i64 x)) b l i x := by
  unfold Sch at h ⊢; simp [World.setCell, Array.getElem?_modify, h]
theorem Sch.draws {w : World} {b : Nat} {l i s : Int} (h : Sch w b l i s) (m : Nat) : Sch (w.drewN m) b l i s := h
theorem Sch.lt {w : World} {b : Nat} {l i s : Int} (h : Sch w b l i s) : b < w.heap.size := (Array.getElem?_eq_some_iff.1 h).1

theorem add_yes (t d : Int) (w : World) (ht : 0 ≤ t) (ht' : t ≤ 9223372036854775807) (hd : 0 ≤ d) (h : d ≤ 9223372036854775807 - t) :
    Calls Yba.prog 10 #[.int .i64 t, .int .i64 d] w fun e w' => e = .returned (.tuple #[.int .i64 (t + d), .bool true]) ∧ w' = w := by
  go_enter Yba.func10, Yba.ntmps10
  go_wp2
  go_ret2
  exact ⟨rfl, rfl⟩
theorem add_no (t d : Int) (w : World) (ht : 0 ≤ t) (ht' : t ≤ 9223372036854775807) (hd : 0 ≤ d) (h : 9223372036854775807 - t < d) :
    Calls Yba.prog 10 #[.int .i64 t, .int .i64 d] w fun e w' => e = .returned (.tuple #[.int .i64 0, .bool false]) ∧ w' = w := by
  go_enter Yba.func10, Yba.ntmps10
  go_wp2
  go_ret2
  exact ⟨rfl, rfl⟩

theorem next_yes (b : Nat) (l i s : Int) (w : World) (hl : 0 ≤ l) (hl' : l ≤ 9223372036854775807) (hs : 0 ≤ s) (hs' : s ≤ 10000000) (h : slp s ≤ 9223372036854775807 - l) (hS : Sch w b l i s) :
    Calls Yba.prog 6 #[.pointer (some ⟨b, 0, none⟩)] w fun e w' => e = .returned (.tuple #[.int .i64 (l + slp s), .bool true]) ∧ ∃ m, w' = w.drewN m := by
  obtain ⟨c0, c1, c2⟩ := hS.cells
  have key : ∀ x : Int, x = slp s → (if s < 20000 then 20000 else s) = x → Calls Yba.prog 6 #[.pointer (some ⟨b, 0, none⟩)] w fun e w' => e = .returned (.tuple #[.int .i64 (l + x), .bool true]) ∧ ∃ m, w' = w.drewN m := by
    intro x hx hx'
    have b1 := slp_bd hs hs'
    rw [← hx] at b1 h
    obtain ⟨b1, b2⟩ := b1
    clear hS hx
    by_cases hc : s < 20000
    · rw [if_pos hc] at hx'
      subst hx'
      go_enter Yba.func6, Yba.ntmps6
      go_wp2
      go_quiet ((go_at_call 10; refine Calls.quiet_of_same (add_yes l _ _ hl hl' (by omega) (by omega))))
      go_wp2
      go_ret2
      exact ⟨rfl, _, rfl⟩
    · rw [if_neg hc] at hx'
      subst hx'
      go_enter Yba.func6, Yba.ntmps6
      go_wp2
      go_quiet ((go_at_call 10; refine Calls.quiet_of_same (add_yes l _ _ hl hl' (by omega) (by omega))))
      go_wp2
      go_ret2
      exact ⟨rfl, _, rfl⟩
  exact key (slp s) rfl rfl
theorem next_no (b : Nat) (l i s : Int) (w : World) (hl : 0 ≤ l) (hl' : l ≤ 9223372036854775807) (hs : 0 ≤ s) (hs' : s ≤ 10000000) (h : 9223372036854775807 - l < slp s) (hS : Sch w b l i s) :
    Calls Yba.prog 6 #[.pointer (some ⟨b, 0, none⟩)] w fun e w' => e = .returned (.tuple #[.int .i64 0, .bool false]) ∧ ∃ m, w' = w.drewN m := by
  obtain ⟨c0, c1, c2⟩ := hS.cells
  clear hS
  unfold slp at h
  by_cases hc : s < 20000
  · rw [if_pos hc] at h
    go_enter Yba.func6, Yba.ntmps6
    go_wp2
    go_quiet ((go_at_call 10; refine Calls.quiet_of_same (add_no l _ _ hl hl' (by omega) (by omega))))
    go_wp2
    go_ret2
    exact ⟨rfl, _, rfl⟩
  · rw [if_neg hc] at h
    go_enter Yba.func6, Yba.ntmps6
    go_wp2
    go_quiet ((go_at_call 10; refine Calls.quiet_of_same (add_no l _ _ hl hl' (by omega) (by omega))))
    go_wp2
    go_ret2
    exact ⟨rfl, _, rfl⟩

theorem shift_any (b : Nat) (l i s d : Int) (w : World) (h : -9223372036854775808 ≤ l + d) (h' : l + d ≤ 9223372036854775807) (hS : Sch w b l i s) :
    Calls Yba.prog 8 #[.pointer (some ⟨b, 0, none⟩), .int .i64 d] w fun e w' => e = .returned (.tuple #[]) ∧ Sch w' b (l + d) i s ∧ Only b w w' := by
  obtain ⟨c0, c1, c2⟩ := hS.cells
  have f0 := hS.free 0
  have HS : Hid (Sch w b l i s) := hS
  clear hS
  go_enter Yba.func8, Yba.ntmps8
  go_wp2
  go_end0
  exact ⟨rfl, HS.out.put0 _, (Only.refl b w).put 0 _⟩
end Go.Proofs.Ybulkevle

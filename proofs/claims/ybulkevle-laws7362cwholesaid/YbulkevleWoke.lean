import Derived.Test.YbulkevleLeaf
set_option linter.unusedVariables false
namespace Go.Proofs.Ybulkevle
open Go.RowKit

theorem woke_end {w : World} {b : Nat} {l i s : Int} (h : Sch w b l i s) (m : Nat) (x y z z' : Int) (hz : z = z') :
    (Ending.returned (Value.tuple #[]) = .returned (.tuple #[])) ∧ Sch ((((w.drewN m).setCell ⟨b, 0, none⟩ (.int .i64 x)).setCell ⟨b, 1, none⟩ (.int .i64 y)).setCell ⟨b, 2, none⟩ (.int .i64 z)) b x y z' ∧
      Only b w ((((w.drewN m).setCell ⟨b, 0, none⟩ (.int .i64 x)).setCell ⟨b, 1, none⟩ (.int .i64 y)).setCell ⟨b, 2, none⟩ (.int .i64 z)) := by
  subst hz
  exact ⟨rfl, (((h.draws m).put0 x).put1 y).put2 z, ((((Only.refl b w).draws m).put 0 _).put 1 _).put 2 _⟩
theorem dbl_low {s : Int} (h : s < 20000) : 40000 = dbl s := by unfold dbl slp; rw [if_pos h]; decide
theorem dbl_mid {s : Int} (h : 20000 ≤ s) (h' : 2 * s ≤ 10000000) : 2 * s = dbl s := by unfold dbl slp; rw [if_neg (by omega : ¬ s < 20000), if_neg (by omega)]
theorem dbl_top {s : Int} (h : 20000 ≤ s) (h' : 10000000 < 2 * s) : 10000000 = dbl s := by unfold dbl slp; rw [if_neg (by omega : ¬ s < 20000), if_pos h']

theorem woke_acted (b : Nat) (l i s : Int) (w : World) (hl : 0 ≤ l) (hl' : l ≤ 9223372036854775807) (hs : 0 ≤ s) (hs' : s ≤ 10000000) (h : slp s ≤ 9223372036854775807 - l) (hS : Sch w b l i s) :
    Calls Yba.prog 7 #[.pointer (some ⟨b, 0, none⟩), .bool true] w fun e w' => e = .returned (.tuple #[]) ∧ Sch w' b (l + slp s) 0 20000 ∧ Only b w w' := by
  obtain ⟨c0, c1, c2⟩ := hS.cells
  have f0 := hS.free 0
  have f1 := hS.free 1
  have f2 := hS.free 2
  have HS : Hid (Sch w b l i s) := hS
  clear hS
  go_enter Yba.func7, Yba.ntmps7
  go_wp2_with (go_at_call 6; refine (next_yes b l i s _ hl hl' hs hs' h HS.out).mono ?_; rintro e w' ⟨rfl, m, rfl⟩)
  go_end0
  exact woke_end HS.out m _ _ _ _ rfl

theorem woke_few (b : Nat) (l i s : Int) (w : World) (hl : 0 ≤ l) (hl' : l ≤ 9223372036854775807) (hi : 0 ≤ i) (hi' : i < 50) (hs : 0 ≤ s) (hs' : s ≤ 10000000) (h : slp s ≤ 9223372036854775807 - l) (hS : Sch w b l i s) :
    Calls Yba.prog 7 #[.pointer (some ⟨b, 0, none⟩), .bool false] w fun e w' => e = .returned (.tuple #[]) ∧ Sch w' b (l + slp s) (i + 1) 20000 ∧ Only b w w' := by
  obtain ⟨c0, c1, c2⟩ := hS.cells
  have f0 := hS.free 0
  have f1 := hS.free 1
  have f2 := hS.free 2
  have HS : Hid (Sch w b l i s) := hS
  clear hS
  go_enter Yba.func7, Yba.ntmps7
  go_wp2_with (go_at_call 6; refine (next_yes b l i s _ hl hl' hs hs' h HS.out).mono ?_; rintro e w' ⟨rfl, m, rfl⟩)
  go_end0
  exact woke_end HS.out m _ _ _ _ rfl

theorem woke_many (b : Nat) (l i s : Int) (w : World) (hl : 0 ≤ l) (hl' : l ≤ 9223372036854775807) (hi : 50 ≤ i) (hi' : i ≤ 51) (hs : 0 ≤ s) (hs' : s ≤ 10000000) (h : slp s ≤ 9223372036854775807 - l) (hS : Sch w b l i s) :
    Calls Yba.prog 7 #[.pointer (some ⟨b, 0, none⟩), .bool false] w fun e w' => e = .returned (.tuple #[]) ∧ Sch w' b (l + slp s) 51 (dbl s) ∧ Only b w w' := by
  obtain ⟨c0, c1, c2⟩ := hS.cells
  have f0 := hS.free 0
  have f1 := hS.free 1
  have f2 := hS.free 2
  have HS : Hid (Sch w b l i s) := hS
  clear hS
  go_enter Yba.func7, Yba.ntmps7
  go_wp2_with (go_at_call 6; refine (next_yes b l i s _ hl hl' hs hs' h HS.out).mono ?_; rintro e w' ⟨rfl, m, rfl⟩)
  all_goals go_end0
  · exact woke_end HS.out m _ _ _ _ (dbl_low ‹_›)
  · exact woke_end HS.out m _ _ _ _ (dbl_top ‹_› ‹_›)
  · exact woke_end HS.out m _ _ _ _ (dbl_mid ‹_› ‹_›)
end Go.Proofs.Ybulkevle

import Derived.Test.YbulkexdwEq
import Derived.WalkKit
import Derived.ProofKit
import Derived.OpenShut
import Derived.ShutString
import Derived.ChangeOld
import Derived.Below
import Derived.WalkSpells
import Derived.WalkLawsBesides
import Derived.Laws.Pointers
import Derived.Laws.StructEq
import Derived.Deep.QuietTactic
import Derived.BigQuiet
namespace Go.Proofs.Ybulkexdw.lawS7445BWhole
open Go.ChangeShapes Go.WideShapes Go.ChangeAt Go.RowKit
set_option linter.unusedVariables false
theorem below3 (w : World) (o1 o2 o3 : Obj) (n : Nat) : Below w.heap.size w ((((w.alloc o1).alloc o2).alloc o3).drewN n) := by
  have h : Below w.heap.size w (((w.alloc o1).alloc o2).alloc o3) := (((Below.refl _ w).alloc (Nat.le_refl _) _).alloc (by simp) _).alloc (by simp; omega) _
  exact ⟨h.os, h.tape, h.output, h.size, h.block⟩
/-- end, at a result of the table. -/
theorem end_set (b : Nat) (r v p : Int) (w : World) (hr : (r = 0 ∧ v = 1) ∨ (r = 1 ∧ v = 8) ∨ (r = 2 ∧ v = 8) ∨ (r = 3 ∧ v = 7) ∨ (r = 4 ∧ v = 7) ∨ (r = 5 ∧ v = 6)) (h : w.cell? ⟨b, 8, none⟩ = some (.int .u8 r)) (h5 : w.cell? ⟨b, 5, none⟩ = some (.int .u8 p)) (f5 : w.frozen? ⟨b, 5, none⟩ = false) :
    Calls Yba.prog 8 #[.pointer (some ⟨b, 0, none⟩)] w fun e w' => e = .returned (.tuple #[]) ∧ w' = w.setCell ⟨b, 5, none⟩ (.int .u8 v) := by
  rcases hr with ⟨rfl, rfl⟩ | ⟨rfl, rfl⟩ | ⟨rfl, rfl⟩ | ⟨rfl, rfl⟩ | ⟨rfl, rfl⟩ | ⟨rfl, rfl⟩
  all_goals
    go_enter Yba.func8, Yba.ntmps8
    go_wp2
    go_end0
    exact ⟨rfl, rfl⟩
/-- end, at any other result. -/
theorem end_not (b : Nat) (r : Int) (w : World) (hr : 5 < r) (h : w.cell? ⟨b, 8, none⟩ = some (.int .u8 r)) :
    Calls Yba.prog 8 #[.pointer (some ⟨b, 0, none⟩)] w fun e w' => e = .returned (.tuple #[]) ∧ w' = w := by
  go_enter Yba.func8, Yba.ntmps8
  go_wp2
  go_end0
  exact ⟨rfl, rfl⟩

theorem walk_not (r a0 a2 a3 a4 a5 a6 : Int) (w : World) (h0 : 5 < r) (h1 : r ≤ 255) :
    Calls Yba.prog 4 #[.int .u8 a0, .int .u8 r, .int .i64 a2, .int .i64 a3, .int .i64 a4, .int .i64 a5, .int .i64 a6] w fun e w' => e = .returned (.bool true) ∧ Below w.heap.size w w' := by
  have heq := eq78 a0 a2 a3 a4 a5 a6 r
  go_enter Yba.func4, Yba.ntmps4
  go_wp2_with (go_at_call 8; refine (end_not w.heap.size r _ h0 ?_).mono ?_; simp [go_sem]; rintro e w' ⟨rfl, rfl⟩)
  go_quiet (fail)
  go_wp2
  go_ret
  exact ⟨rfl, below3 w _ _ _ _⟩
set_option maxHeartbeats 2000000 in
theorem walk_set (r v a0 a2 a3 a4 a5 a6 : Int) (w : World) (hr : (r = 0 ∧ v = 1) ∨ (r = 1 ∧ v = 8) ∨ (r = 2 ∧ v = 8) ∨ (r = 3 ∧ v = 7) ∨ (r = 4 ∧ v = 7) ∨ (r = 5 ∧ v = 6)) :
    Calls Yba.prog 4 #[.int .u8 a0, .int .u8 r, .int .i64 a2, .int .i64 a3, .int .i64 a4, .int .i64 a5, .int .i64 a6] w fun e w' => e = .returned (.bool true) ∧ Below w.heap.size w w' := by
  have heq := eq78 v a2 a3 a4 a5 a6 r
  rcases hr with ⟨rfl, rfl⟩ | ⟨rfl, rfl⟩ | ⟨rfl, rfl⟩ | ⟨rfl, rfl⟩ | ⟨rfl, rfl⟩ | ⟨rfl, rfl⟩
  · go_enter Yba.func4, Yba.ntmps4
    go_wp2_with fail
    refine (end_set w.heap.size 0 1 a0 _ (.inl ⟨rfl, rfl⟩) (by simp [go_sem]) (by simp [go_sem]) (by simp [go_sem])).mono ?_
    rintro e w' ⟨rfl, rfl⟩
    go_wp2_with fail
    go_quiet (fail)
    go_wp2
    go_ret
    exact ⟨rfl, below3 w _ _ _ _⟩
  · go_enter Yba.func4, Yba.ntmps4
    go_wp2_with fail
    refine (end_set w.heap.size 1 8 a0 _ (.inr (.inl ⟨rfl, rfl⟩)) (by simp [go_sem]) (by simp [go_sem]) (by simp [go_sem])).mono ?_
    rintro e w' ⟨rfl, rfl⟩
    go_wp2_with fail
    go_quiet (fail)
    go_wp2
    go_ret
    exact ⟨rfl, below3 w _ _ _ _⟩
  · go_enter Yba.func4, Yba.ntmps4
    go_wp2_with fail
    refine (end_set w.heap.size 2 8 a0 _ (.inr (.inr (.inl ⟨rfl, rfl⟩))) (by simp [go_sem]) (by simp [go_sem]) (by simp [go_sem])).mono ?_
    rintro e w' ⟨rfl, rfl⟩
    go_wp2_with fail
    go_quiet (fail)
    go_wp2
    go_ret
    exact ⟨rfl, below3 w _ _ _ _⟩
  · go_enter Yba.func4, Yba.ntmps4
    go_wp2_with fail
    refine (end_set w.heap.size 3 7 a0 _ (.inr (.inr (.inr (.inl ⟨rfl, rfl⟩)))) (by simp [go_sem]) (by simp [go_sem]) (by simp [go_sem])).mono ?_
    rintro e w' ⟨rfl, rfl⟩
    go_wp2_with fail
    go_quiet (fail)
    go_wp2
    go_ret
    exact ⟨rfl, below3 w _ _ _ _⟩
  · go_enter Yba.func4, Yba.ntmps4
    go_wp2_with fail
    refine (end_set w.heap.size 4 7 a0 _ (.inr (.inr (.inr (.inr (.inl ⟨rfl, rfl⟩))))) (by simp [go_sem]) (by simp [go_sem]) (by simp [go_sem])).mono ?_
    rintro e w' ⟨rfl, rfl⟩
    go_wp2_with fail
    go_quiet (fail)
    go_wp2
    go_ret
    exact ⟨rfl, below3 w _ _ _ _⟩
  · go_enter Yba.func4, Yba.ntmps4
    go_wp2_with fail
    refine (end_set w.heap.size 5 6 a0 _ (.inr (.inr (.inr (.inr (.inr ⟨rfl, rfl⟩))))) (by simp [go_sem]) (by simp [go_sem]) (by simp [go_sem])).mono ?_
    rintro e w' ⟨rfl, rfl⟩
    go_wp2_with fail
    go_quiet (fail)
    go_wp2
    go_ret
    exact ⟨rfl, below3 w _ _ _ _⟩
theorem walk (a0 : Int) (a1 : Int) (a2 : Int) (a3 : Int) (a4 : Int) (a5 : Int) (a6 : Int) (w0 : (Lit.int .u8 a0).wf = true) (w1 : (Lit.int .u8 a1).wf = true) (w2 : (Lit.int .i64 a2).wf = true) (w3 : (Lit.int .i64 a3).wf = true) (w4 : (Lit.int .i64 a4).wf = true) (w5 : (Lit.int .i64 a5).wf = true) (w6 : (Lit.int .i64 a6).wf = true) (w : World) :
    Calls Yba.prog 4 #[.int .u8 a0, .int .u8 a1, .int .i64 a2, .int .i64 a3, .int .i64 a4, .int .i64 a5, .int .i64 a6] w fun e w' => e = .returned (.bool true) ∧ Below w.heap.size w w' := by
  have hb := bounds_u8 w1
  by_cases h : 5 < a1
  · exact walk_not a1 a0 a2 a3 a4 a5 a6 w h hb.2
  · rcases (show a1 = 0 ∨ a1 = 1 ∨ a1 = 2 ∨ a1 = 3 ∨ a1 = 4 ∨ a1 = 5 from by omega) with h | h | h | h | h | h
    · exact walk_set a1 1 a0 a2 a3 a4 a5 a6 w (.inl ⟨h, rfl⟩)
    · exact walk_set a1 8 a0 a2 a3 a4 a5 a6 w (.inr (.inl ⟨h, rfl⟩))
    · exact walk_set a1 8 a0 a2 a3 a4 a5 a6 w (.inr (.inr (.inl ⟨h, rfl⟩)))
    · exact walk_set a1 7 a0 a2 a3 a4 a5 a6 w (.inr (.inr (.inr (.inl ⟨h, rfl⟩))))
    · exact walk_set a1 7 a0 a2 a3 a4 a5 a6 w (.inr (.inr (.inr (.inr (.inl ⟨h, rfl⟩)))))
    · exact walk_set a1 6 a0 a2 a3 a4 a5 a6 w (.inr (.inr (.inr (.inr (.inr ⟨h, rfl⟩)))))

theorem own : ownKnob Yba.prog.godebug = none := by kernel_rfl
/-! ### THE ROW's STEP: WRITTEN OUT: LEAVE IT -/
set_option maxRecDepth 100000 in
theorem lifted (os : Os) (started : os.Started) (H : Type) (enc : TypeId × Value → H) :
    ReturnsInHanded {} Yba.checked os 4 .any (Rows.lawS7445BWholeSpec.pre6 enc Yba.prog Yba.f4 Rows.lawS7445BWholeRow.domain false) (Rows.lawS7445BWholeSpec.post enc Yba.prog Yba.f4 false true false false) := by
  refine returnsInHanded_of_change (C := Yba.checked) own started (by kernel_rfl) Yba.func4
    (ChangeSpec.witness6 (enc := enc) (C := Yba.checked) false ⟨#[], #[.int .u8 0, .int .u8 0, .int .i64 0, .int .i64 0, .int .i64 0, .int .i64 0, .int .i64 0], []⟩ 8 (by kernel_rfl) (by kernel_rfl) (by kernel_rfl) (by kernel_rfl)) ?_
  intro W base args ds gs before hval0 hW hcnd _
  have hval : ∀ (j : Nat) t v, Yba.f4.params[j]? = some t → args[j]? = some v → Value.okWide Yba.prog W .any base t v := hval0
  have hW' := hW
  obtain ⟨p, q, hA0, hV, rfl, hfz, hnd⟩ := hW
  have hA : DataW.TrodAll enc Yba.prog W 0 (fun _ => true) true Yba.f4.params.toList args.toList ds p := hA0
  rw [Yba.params4] at hA hval
  obtain ⟨v0, vs0, d0, ds0, p0, q0, hargs, rfl, rfl, h0, r0⟩ := trodAll_cons hA
  obtain ⟨v1, vs1, d1, ds1, p1, q1, rfl, rfl, rfl, h1, r1⟩ := trodAll_cons r0
  obtain ⟨v2, vs2, d2, ds2, p2, q2, rfl, rfl, rfl, h2, r2⟩ := trodAll_cons r1
  obtain ⟨v3, vs3, d3, ds3, p3, q3, rfl, rfl, rfl, h3, r3⟩ := trodAll_cons r2
  obtain ⟨v4, vs4, d4, ds4, p4, q4, rfl, rfl, rfl, h4, r4⟩ := trodAll_cons r3
  obtain ⟨v5, vs5, d5, ds5, p5, q5, rfl, rfl, rfl, h5, r5⟩ := trodAll_cons r4
  obtain ⟨v6, vs6, d6, ds6, p6, q6, rfl, rfl, rfl, h6, r6⟩ := trodAll_cons r5
  obtain ⟨rfl, rfl, rfl⟩ := trodAll_nil r6
  obtain rfl : args = #[v0, v1, v2, v3, v4, v5, v6] := by cases args; simp_all
  obtain ⟨rfl, rfl⟩ := trodVars_none hV
  obtain ⟨a0, rfl, rfl, rfl, w0⟩ := open_int Yba.underlying5 (hval 0 5 v0 rfl rfl) h0
  obtain ⟨a1, rfl, rfl, rfl, w1⟩ := open_int Yba.underlying5 (hval 1 5 v1 rfl rfl) h1
  obtain ⟨a2, rfl, rfl, rfl, w2⟩ := open_int Yba.underlying2 (hval 2 2 v2 rfl rfl) h2
  obtain ⟨a3, rfl, rfl, rfl, w3⟩ := open_int Yba.underlying2 (hval 3 2 v3 rfl rfl) h3
  obtain ⟨a4, rfl, rfl, rfl, w4⟩ := open_int Yba.underlying3 (hval 4 3 v4 rfl rfl) h4
  obtain ⟨a5, rfl, rfl, rfl, w5⟩ := open_int Yba.underlying2 (hval 5 2 v5 rfl rfl) h5
  obtain ⟨a6, rfl, rfl, rfl, w6⟩ := open_int Yba.underlying2 (hval 6 2 v6 rfl rfl) h6
  clear hA0 hval0
  simp only [List.append_nil] at hW'
  refine (walk a0 a1 a2 a3 a4 a5 a6 w0 w1 w2 w3 w4 w5 w6 W).mono fun e W' ⟨he, bel⟩ => ?_
  subst he
  exact ⟨_, rfl, _, _, _, [], _, [], hW', trodAll_mk1 (shut_bool Yba.underlying4 _), (trodAll_cons_mk (shut_int Yba.underlying5 w0) (trodAll_cons_mk (shut_int Yba.underlying5 w1) (trodAll_cons_mk (shut_int Yba.underlying2 w2) (trodAll_cons_mk (shut_int Yba.underlying2 w3) (trodAll_cons_mk (shut_int Yba.underlying3 w4) (trodAll_cons_mk (shut_int Yba.underlying2 w5) (trodAll_cons_mk (shut_int Yba.underlying2 w6) trodAll_mk0))))))), rfl, bel.frame _, fun h => by cases h⟩

theorem over : Rows.lawS7445BWholeRow.holds Yba.pinned (OpenSpec.ofChange Rows.lawS7445BWholeSpec) :=
  OpenClaim.holds_of_wide 4 Yba.f4 rfl rfl rfl rfl rfl rfl rfl ⟨rfl, rfl, rfl, rfl, rfl⟩ rfl rfl rfl rfl rfl (by kernel_rfl) Yba.func4 (by kernel_rfl)
    (of_decide_eq_true (by kernel_rfl)) (by unfold Func.isWrapper; first | (rw [if_pos (by decide +kernel)]; kernel_rfl) | (rw [if_neg (by decide +kernel)]; exact ⟨rfl, rfl⟩))
    (fun os started H enc _ => lifted os started H enc)

end Go.Proofs.Ybulkexdw.lawS7445BWhole
namespace Go.Proofs.Ybulkexdw
/-- THE STATEMENT -/
theorem lawS7445BWhole_proved : Rows.LawS7445BWholeSaid := lawS7445BWhole.over
#print axioms lawS7445BWhole_proved
end Go.Proofs.Ybulkexdw

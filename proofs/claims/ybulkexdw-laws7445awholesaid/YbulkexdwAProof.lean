import Derived.Test.YbulkexdwA
import Derived.OpenShut
import Derived.ShutString
import Derived.ChangeOld
import Derived.Below
import Derived.Deep.SlicePairs
set_option linter.unusedVariables false
namespace Go.Proofs.Ybulkexdw.lawS7445AWhole
open Go.ChangeShapes Go.WideShapes Go.ChangeAt Go.RowKit
open Go.ChangeMaps (open_string shut_string)

set_option maxRecDepth 100000 in
theorem long (h : Bool) (st : Int) (a : Option Addr) (n c : Nat) (w : World) (hn : 1048576 < n) :
    Calls Yba.prog 3 #[.bool h, .int .i64 st, .slice a n c] w fun e w' => e = .returned (.bool true) ∧ Below w.heap.size w w' := by
  have hi : (1048576 : Int) < (n : Int) := by omega
  go_enter Yba.func3, Yba.ntmps3
  go_wp2
  go_ret
  exact ⟨rfl, Below.refl _ w⟩
set_option maxRecDepth 100000 in
theorem bare (st : Int) (a : Option Addr) (n c : Nat) (w : World) (hn : n ≤ 1048576) :
    Calls Yba.prog 3 #[.bool false, .int .i64 st, .slice a n c] w fun e w' => e = .returned (.bool true) ∧ Below w.heap.size w w' := by
  obtain ⟨B, hB, hB'⟩ : ∃ B : Int, (n : Int) ≤ B ∧ B ≤ 1048576 := ⟨n, Int.le_refl _, by omega⟩
  have hq47 := fun (w : World) (a : Option Addr) (n c : Nat) => Lib.run_eql_slice_nil (P := Yba.prog) w 47 69 a n c 0 0 Yba.underlying47
  clear hn
  go_enter Yba.func3, Yba.ntmps3
  go_wp2_with (go_at_call 6; refine (ranges_nil w.heap.size _ ?_).mono ?_; simp [go_sem]; rintro e w' ⟨rfl, rfl⟩)
  go_ret
  exact ⟨rfl, (Below.refl _ w).alloc (Nat.le_refl _) _⟩

theorem walk (h : Bool) (st : Int) (a : Option Addr) (n c : Nat) (lo hi : Nat → Int) (w : World) (hU : UpsAt w a n lo hi) :
    Calls Yba.prog 3 #[.bool h, .int .i64 st, .slice a n c] w fun e w' => e = .returned (.bool true) ∧ Below w.heap.size w w' := by
  by_cases hn : n ≤ 1048576
  · cases h
    · exact bare st a n c w hn
    · exact lawA a n c st lo hi w hn hU
  · exact long h st a n c w (by omega)

theorem own : ownKnob Yba.prog.godebug = none := by kernel_rfl
theorem laidOut : laidOutB Yba.prog = true := by kernel_rfl

theorem ups_of {H : Type} {enc : TypeId × Value → H} {W : World} {a : Option Addr} {len cap : Nat} {d : DataW H} {p : List MemPlace} (h : DataW.Trod enc Yba.prog W 0 (fun _ => true) true 22 (.slice a len cap) d p) : ∃ lo hi, UpsAt W a len lo hi := by
  obtain ⟨fuel, hf⟩ := h
  have hf' : DataW.trod enc Yba.prog W 0 (fun _ => true) true fuel 22 [.slice a len cap] = some (d, p) := by simpa [Value.cells] using hf
  rcases Go.Deep.open_slice_pairs Yba.underlying22 Yba.underlying51 (by kernel_rfl) rfl rfl (by kernel_rfl) (by kernel_rfl) hf' with ⟨hcs, _⟩ | ⟨x, l, c, m, n, V0, V1, D0, D1, P0, P1, hcs, _, hl, hm, hmm, _, hx⟩
  · simp at hcs
    exact ⟨fun _ => 0, fun _ => 0, .inl hcs.2.1⟩
  · simp at hcs
    obtain ⟨rfl, rfl, rfl⟩ := hcs
    simp at hmm
    by_cases h0 : len = 0
    · exact ⟨fun _ => 0, fun _ => 0, .inl h0⟩
    · obtain ⟨b, off, spot⟩ := x
      have hs : spot = none := by simpa [Addr.add] using World.cell?_spot (hx 0 (by omega)).1
      subst hs
      have key : ∀ i, ∃ q : Int × Int, i < len → W.cell? ⟨b, off + i * 2, none⟩ = some (.int .i64 q.1) ∧ W.cell? ⟨b, off + i * 2 + 1, none⟩ = some (.int .i64 q.2) := by
        intro i
        by_cases hi : i < len
        · obtain ⟨g0, g1, g2, g3⟩ := hx i (by omega)
          obtain ⟨u, hu, _, wu⟩ := DataW.trod_int Yba.underlying2 g2
          obtain ⟨v, hv, _, wv⟩ := DataW.trod_int Yba.underlying2 g3
          simp at hu hv
          rw [hu] at g0
          rw [hv] at g1
          rw [add_plain] at g0 g1
          exact ⟨(u, v), fun _ => ⟨g0, by simpa [Nat.add_assoc] using g1⟩⟩
        · exact ⟨(0, 0), fun h => absurd h hi⟩
      have hb : b < W.heap.size := World.block_lt_of_cell? W _ (hx 0 (by omega)).1
      exact ⟨fun i => (Classical.choose (key i)).1, fun i => (Classical.choose (key i)).2, .inr ⟨b, off, rfl, hb, fun i hi => Classical.choose_spec (key i) hi⟩⟩

set_option maxRecDepth 100000 in
theorem lifted (os : Os) (started : os.Started) (H : Type) (enc : TypeId × Value → H) :
    ReturnsInHanded {} Yba.checked os 3 .any (Rows.lawS7445AWholeSpec.pre6 enc Yba.prog Yba.f3 Rows.lawS7445AWholeRow.domain false) (Rows.lawS7445AWholeSpec.post enc Yba.prog Yba.f3 false true false false) := by
  refine returnsInHanded_of_change (C := Yba.checked) own started (by kernel_rfl) Yba.func3
    (ChangeSpec.witness6 (enc := enc) (C := Yba.checked) false ⟨#[], #[.bool false, .int .i64 0, .slice none 0 0], []⟩ 8 (by kernel_rfl) (by kernel_rfl) (by kernel_rfl) (by kernel_rfl)) ?_
  intro W base args ds gs before hval0 hW hcnd _
  have hval : ∀ (j : Nat) t v, Yba.f3.params[j]? = some t → args[j]? = some v → Value.okWide Yba.prog W .any base t v := hval0
  have hW' := hW
  obtain ⟨p, q, hA0, hV, rfl, hfz, hnd⟩ := hW
  have hA : DataW.TrodAll enc Yba.prog W 0 (fun _ => true) true Yba.f3.params.toList args.toList ds p := hA0
  rw [Yba.params3] at hA hval
  obtain ⟨v0, vs0, d0, ds0, p0, q0, hargs, rfl, rfl, h0, r0⟩ := trodAll_cons hA
  obtain ⟨v1, vs1, d1, ds1, p1, q1, rfl, rfl, rfl, h1, r1⟩ := trodAll_cons r0
  obtain ⟨v2, vs2, d2, ds2, p2, q2, rfl, rfl, rfl, h2, r2⟩ := trodAll_cons r1
  obtain ⟨rfl, rfl, rfl⟩ := trodAll_nil r2
  obtain rfl : args = #[v0, v1, v2] := by cases args; simp_all
  obtain ⟨rfl, rfl⟩ := trodVars_none hV
  obtain ⟨h, rfl, rfl, rfl⟩ := open_bool Yba.underlying4 (hval 0 4 v0 rfl rfl) h0
  obtain ⟨a1, rfl, rfl, rfl, w1⟩ := open_int Yba.underlying2 (hval 1 2 v1 rfl rfl) h1
  obtain ⟨a2, len2, cap2, rfl⟩ := okWide_slice Yba.underlying22 (hval 2 22 v2 rfl rfl)
  have k2 := h2
  have lt2 : ∀ x ∈ p2, x.block < W.heap.size := by obtain ⟨m, hm⟩ := k2; exact DataW.trod_lt m _ _ _ hm
  obtain ⟨lo, hi, hU⟩ := ups_of h2
  clear hA0 hval0
  refine (walk h a1 a2 len2 cap2 lo hi W hU).mono fun e W' ⟨he, bel⟩ => ?_
  subst he
  exact ⟨_, rfl, _, _, _, [], _, [], hW', trodAll_mk1 (shut_bool Yba.underlying4 _), (trodAll_cons_mk (shut_bool Yba.underlying4 _) (trodAll_cons_mk (shut_int Yba.underlying2 w1) (trodAll_cons_mk (Below.trod laidOut (by kernel_rfl) (of_decide_eq_true (by kernel_rfl)) k2 bel lt2) trodAll_mk0))), rfl, bel.frame _, fun h => by cases h⟩

theorem over : Rows.lawS7445AWholeRow.holds Yba.pinned (OpenSpec.ofChange Rows.lawS7445AWholeSpec) :=
  OpenClaim.holds_of_wide 3 Yba.f3 rfl rfl rfl rfl rfl rfl rfl ⟨rfl, rfl, rfl, rfl, rfl⟩ rfl rfl rfl rfl rfl (by kernel_rfl) Yba.func3 (by kernel_rfl)
    (of_decide_eq_true (by kernel_rfl)) (by unfold Func.isWrapper; first | (rw [if_pos (by decide +kernel)]; kernel_rfl) | (rw [if_neg (by decide +kernel)]; exact ⟨rfl, rfl⟩))
    (fun os started H enc _ => lifted os started H enc)

end Go.Proofs.Ybulkexdw.lawS7445AWhole
namespace Go.Proofs.Ybulkexdw
/-- THE STATEMENT -/
theorem lawS7445AWhole_proved : Rows.LawS7445AWholeSaid := lawS7445AWhole.over
#print axioms lawS7445AWhole_proved
end Go.Proofs.Ybulkexdw

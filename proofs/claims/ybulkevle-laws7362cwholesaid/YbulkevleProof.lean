import Derived.Test.YbulkevleLaw
import Derived.OpenShut
import Derived.ShutString
import Derived.ChangeOld
import Derived.Below
import Derived.Deep.SlicePairs
set_option linter.unusedVariables false
namespace Go.Proofs.Ybulkevle
open Go.ChangeShapes Go.WideShapes Go.ChangeAt Go.RowKit
open Go.ChangeMaps (open_string shut_string)

set_option maxRecDepth 100000 in
theorem build_none (a : Option Addr) (c : Nat) (w : World) : Calls Yba.prog 4 #[.slice a 0 c] w fun e w' => e = .returned (.pointer (some ⟨w.heap.size, 0, none⟩)) ∧ Bld w w' := by
  go_enter Yba.func4, Yba.ntmps4
  go_wp2_with fail
  go_loopg [4] 0 (fun g i wr => i = .int .i64 0 ∧ Bld w wr)
  case atStart => exact ⟨rfl, bld_start w⟩
  case round =>
    obtain ⟨rfl, hB⟩ := hrel
    go_wp2_with fail
    go_ret
    exact ⟨rfl, hB⟩

/-- What the walk is told of the script that came in. -/
def ScriptIs (w : World) (a : Option Addr) (n : Nat) : Prop := n = 0 ∨ ∃ b off o y, a = some ⟨b, off, none⟩ ∧ b < w.heap.size ∧ OpsAt w b off n o y

theorem long (a : Option Addr) (n c : Nat) (ms ns bk : Int) (w : World) (hn : 4096 < n) :
    Calls Yba.prog 3 #[.slice a n c, .int .u16 ms, .int .u32 ns, .int .u32 bk] w fun e w' => e = .returned (.bool true) ∧ Below w.heap.size w w' := by
  have hi : (4096 : Int) < (n : Int) := by omega
  go_enter Yba.func3, Yba.ntmps3
  go_wp2
  go_ret
  exact ⟨rfl, Below.refl _ w⟩

theorem walk (a : Option Addr) (n c : Nat) (ms ns bk : Int) (w : World) (h0 : ScriptIs w a n) (h1 : (Lit.int .u16 ms).wf = true) (h2 : (Lit.int .u32 ns).wf = true) (h3 : (Lit.int .u32 bk).wf = true) :
    Calls Yba.prog 3 #[.slice a n c, .int .u16 ms, .int .u32 ns, .int .u32 bk] w fun e w' => e = .returned (.bool true) ∧ Below w.heap.size w w' := by
  by_cases hn : n ≤ 4096
  · refine law_walk a n c ms ns bk w hn (bounds_u16 h1) (bounds_u32 h2) (bounds_u32 h3) ?_
    rcases h0 with rfl | ⟨b, off, o, y, rfl, hb, hO⟩
    · exact build_none a c w
    · exact build_walk b off n c o y w hb hn hO
  · exact long a n c ms ns bk w (by omega)

theorem own : ownKnob Yba.prog.godebug = none := by kernel_rfl
theorem laidOut : laidOutB Yba.prog = true := by kernel_rfl

theorem script_of {H : Type} {enc : TypeId × Value → H} {W : World} {a : Option Addr} {len cap : Nat} {d : DataW H} {p : List MemPlace} (h : DataW.Trod enc Yba.prog W 0 (fun _ => true) true 22 (.slice a len cap) d p) : ScriptIs W a len := by
  obtain ⟨fuel, hf⟩ := h
  have hf' : DataW.trod enc Yba.prog W 0 (fun _ => true) true fuel 22 [.slice a len cap] = some (d, p) := by simpa [Value.cells] using hf
  rcases Go.Deep.open_slice_pairs Yba.underlying22 Yba.underlying33 (by kernel_rfl) rfl rfl (by kernel_rfl) (by kernel_rfl) hf' with ⟨hcs, _⟩ | ⟨x, l, c, m, n, V0, V1, D0, D1, P0, P1, hcs, _, hl, hm, hmm, _, hx⟩
  · simp at hcs
    exact .inl hcs.2.1
  · simp at hcs
    obtain ⟨rfl, rfl, rfl⟩ := hcs
    simp at hmm
    by_cases h0 : len = 0
    · exact .inl h0
    · refine .inr ?_
      obtain ⟨b, off, spot⟩ := x
      have hs : spot = none := by simpa [Addr.add] using World.cell?_spot (hx 0 (by omega)).1
      subst hs
      have key : ∀ i, ∃ q : Int × Int, i < len → W.cell? ⟨b, off + i * 2, none⟩ = some (.int .u8 q.1) ∧ W.cell? ⟨b, off + i * 2 + 1, none⟩ = some (.int .u32 q.2) ∧ 0 ≤ q.1 ∧ q.1 ≤ 255 ∧ 0 ≤ q.2 ∧ q.2 ≤ 4294967295 := by
        intro i
        by_cases hi : i < len
        · obtain ⟨g0, g1, g2, g3⟩ := hx i (by omega)
          obtain ⟨u, hu, _, wu⟩ := DataW.trod_int Yba.underlying5 g2
          obtain ⟨v, hv, _, wv⟩ := DataW.trod_int Yba.underlying24 g3
          simp at hu hv
          rw [hu] at g0
          rw [hv] at g1
          have bu := bounds_u8 wu
          have bv := bounds_u32 wv
          rw [add_plain] at g0 g1
          exact ⟨(u, v), fun _ => ⟨g0, by simpa [Nat.add_assoc] using g1, bu.1, bu.2, bv.1, bv.2⟩⟩
        · exact ⟨(0, 0), fun h => absurd h hi⟩
      have hb : b < W.heap.size := World.block_lt_of_cell? W _ (hx 0 (by omega)).1
      exact ⟨b, off, fun i => (Classical.choose (key i)).1, fun i => (Classical.choose (key i)).2, rfl, hb, fun i hi => Classical.choose_spec (key i) hi⟩

set_option maxRecDepth 100000 in
theorem lifted (os : Os) (started : os.Started) (H : Type) (enc : TypeId × Value → H) :
    ReturnsInHanded {} Yba.checked os 3 .any (Rows.lawS7362CWholeSpec.pre6 enc Yba.prog Yba.f3 Rows.lawS7362CWholeRow.domain false) (Rows.lawS7362CWholeSpec.post enc Yba.prog Yba.f3 false true false false) := by
  refine returnsInHanded_of_change (C := Yba.checked) own started (by kernel_rfl) Yba.func3
    (ChangeSpec.witness6 (enc := enc) (C := Yba.checked) false ⟨#[], #[.slice none 0 0, .int .u16 0, .int .u32 0, .int .u32 0], []⟩ 8 (by kernel_rfl) (by kernel_rfl) (by kernel_rfl) (by kernel_rfl)) ?_
  intro W base args ds gs before hval0 hW hcnd _
  have hval : ∀ (j : Nat) t v, Yba.f3.params[j]? = some t → args[j]? = some v → Value.okWide Yba.prog W .any base t v := hval0
  have hW' := hW
  obtain ⟨p, q, hA0, hV, rfl, hfz, hnd⟩ := hW
  have hA : DataW.TrodAll enc Yba.prog W 0 (fun _ => true) true Yba.f3.params.toList args.toList ds p := hA0
  rw [Yba.params3] at hA hval
  obtain ⟨v0, vs0, d0, ds0, p0, q0, hargs, rfl, rfl, h0, r0⟩ := trodAll_cons hA
  obtain ⟨v1, vs1, d1, ds1, p1, q1, rfl, rfl, rfl, h1, r1⟩ := trodAll_cons r0
  obtain ⟨v2, vs2, d2, ds2, p2, q2, rfl, rfl, rfl, h2, r2⟩ := trodAll_cons r1
  obtain ⟨v3, vs3, d3, ds3, p3, q3, rfl, rfl, rfl, h3, r3⟩ := trodAll_cons r2
  obtain ⟨rfl, rfl, rfl⟩ := trodAll_nil r3
  obtain rfl : args = #[v0, v1, v2, v3] := by cases args; simp_all
  obtain ⟨rfl, rfl⟩ := trodVars_none hV
  obtain ⟨a0, len0, cap0, rfl⟩ := okWide_slice Yba.underlying22 (hval 0 22 v0 rfl rfl)
  have k0 := h0
  have lt0 : ∀ x ∈ p0, x.block < W.heap.size := by obtain ⟨m, hm⟩ := k0; exact DataW.trod_lt m _ _ _ hm
  have s0 := script_of h0
  obtain ⟨a1, rfl, rfl, rfl, w1⟩ := open_int Yba.underlying23 (hval 1 23 v1 rfl rfl) h1
  obtain ⟨a2, rfl, rfl, rfl, w2⟩ := open_int Yba.underlying24 (hval 2 24 v2 rfl rfl) h2
  obtain ⟨a3, rfl, rfl, rfl, w3⟩ := open_int Yba.underlying24 (hval 3 24 v3 rfl rfl) h3
  clear hA0 hval0
  refine (walk a0 len0 cap0 a1 a2 a3 W s0 w1 w2 w3).mono fun e W' ⟨he, bel⟩ => ?_
  subst he
  exact ⟨_, rfl, _, _, _, [], _, [], hW', trodAll_mk1 (shut_bool Yba.underlying4 _), (trodAll_cons_mk (Below.trod laidOut (by kernel_rfl) (of_decide_eq_true (by kernel_rfl)) k0 bel lt0) (trodAll_cons_mk (shut_int Yba.underlying23 w1) (trodAll_cons_mk (shut_int Yba.underlying24 w2) (trodAll_cons_mk (shut_int Yba.underlying24 w3) trodAll_mk0)))), rfl, bel.frame _, fun h => by cases h⟩

theorem over : Rows.lawS7362CWholeRow.holds Yba.pinned (OpenSpec.ofChange Rows.lawS7362CWholeSpec) :=
  OpenClaim.holds_of_wide 3 Yba.f3 rfl rfl rfl rfl rfl rfl rfl ⟨rfl, rfl, rfl, rfl, rfl⟩ rfl rfl rfl rfl rfl (by kernel_rfl) Yba.func3 (by kernel_rfl)
    (of_decide_eq_true (by kernel_rfl)) (by unfold Func.isWrapper; first | (rw [if_pos (by decide +kernel)]; kernel_rfl) | (rw [if_neg (by decide +kernel)]; exact ⟨rfl, rfl⟩))
    (fun os started H enc _ => lifted os started H enc)

/-- THE STATEMENT -/
theorem lawS7362CWhole_proved : Rows.LawS7362CWholeSaid := over
#print axioms lawS7362CWhole_proved
end Go.Proofs.Ybulkevle

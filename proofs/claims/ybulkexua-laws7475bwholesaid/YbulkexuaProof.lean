import Derived.Test.YbulkexuaLaw
import Derived.OpenShut
import Derived.ShutString
import Derived.ChangeOld
import Derived.Below
import Derived.Deep.Slices
import Derived.Laws.Cover2
set_option linter.unusedVariables false
namespace Go.Proofs.Ybulkexua.lawS7475BWhole
open Go.ChangeShapes Go.WideShapes Go.ChangeAt Go.RowKit
open Go.ChangeMaps (open_string shut_string)

set_option maxRecDepth 100000 in
theorem long (a : Option Addr) (l cc : Nat) (x : Int) (ab : Option Addr) (lb cb : Nat) (rows o i : Int) (w : World) (hl : 65536 < l) :
    Calls Yba.prog 3 #[.slice a l cc, .int .u8 x, .slice ab lb cb, .int .i64 rows, .int .u64 o, .int .u64 i] w fun e w' => e = .returned (.bool true) ∧ Below w.heap.size w w' := by
  have hi : (65536 : Int) < (l : Int) := by omega
  go_enter Yba.func3, Yba.ntmps3
  go_wp2
  go_ret
  exact ⟨rfl, Below.refl _ w⟩
theorem walk (a : Option Addr) (l cc : Nat) (xs : Nat → Nat) (x : Int) (ab : Option Addr) (lb cb : Nat) (bs : Nat → Int) (rows o i : Int) (w : World) (hfl : FlAt w a l xs) (hin : InAt w ab lb bs) (h1 : (Lit.int .u8 x).wf = true) (h2 : (Lit.int .u64 o).wf = true) (h3 : (Lit.int .u64 i).wf = true) :
    Calls Yba.prog 3 #[.slice a l cc, .int .u8 x, .slice ab lb cb, .int .i64 rows, .int .u64 o, .int .u64 i] w fun e w' => e = .returned (.bool true) ∧ Below w.heap.size w w' := by
  by_cases hn : l ≤ 65536
  · have b1 := bounds_u8 h1
    have b2 := bounds_u64 h2
    have b3 := bounds_u64 h3
    exact law a l cc xs x ab lb cb bs rows o i w w.heap.size rfl hfl hin 65536 (by omega) (Int.le_refl _) b1.1 b1.2 b2.1 b3.1 b2.2 b3.2
  · exact long a l cc x ab lb cb rows o i w (by omega)

theorem own : ownKnob Yba.prog.godebug = none := by kernel_rfl
theorem laidOut : laidOutB Yba.prog = true := by kernel_rfl

theorem trod_f64 {H : Type} {enc : TypeId × Value → H} {P : Program} {w : World} {base : Nat} {spare : Nat → Bool} {held : Bool} {fuel : Nat} {t : TypeId} {cs : List Value} {x : DataW H × List MemPlace} (ht : P.underlying t = some (.float .f64)) (h : DataW.trod enc P w base spare held fuel t cs = some x) : ∃ n, cs = [.float .f64 n] := by
  cases fuel with
  | zero => simp [DataW.trod] at h
  | succ n =>
    unfold DataW.trod at h
    rw [ht] at h
    split at h <;> simp_all

theorem fl_of {H : Type} {enc : TypeId × Value → H} {W : World} {a : Option Addr} {len cap : Nat} {d : DataW H} {p : List MemPlace} (h : DataW.Trod enc Yba.prog W 0 (fun _ => true) true 22 (.slice a len cap) d p) : ∃ xs, FlAt W a len xs := by
  obtain ⟨fuel, hf⟩ := h
  have hf' : DataW.trod enc Yba.prog W 0 (fun _ => true) true fuel 22 [.slice a len cap] = some (d, p) := by simpa [Value.cells] using hf
  rcases Go.Deep.open_slice1 Yba.underlying22 (by kernel_rfl) hf' with ⟨hcs, _⟩ | ⟨x, l, c, m, n, V, D, Pl, hcs, _, hl, hm, hmm, _, hx⟩
  · simp at hcs
    exact ⟨fun _ => 0, .inl hcs.2.1⟩
  · simp at hcs
    obtain ⟨rfl, rfl, rfl⟩ := hcs
    simp at hmm
    by_cases h0 : len = 0
    · exact ⟨fun _ => 0, .inl h0⟩
    · obtain ⟨b, off, spot⟩ := x
      have hs : spot = none := by simpa [Addr.add] using World.cell?_spot (hx 0 (by omega)).1
      subst hs
      have key : ∀ i, ∃ q : Nat, i < len → W.cell? ⟨b, off + i, none⟩ = some (.float .f64 q) := by
        intro i
        by_cases hi : i < len
        · obtain ⟨g0, g1⟩ := hx i (by omega)
          obtain ⟨u, hu⟩ := trod_f64 Yba.underlying26 g1
          simp at hu
          rw [hu, add_plain] at g0
          exact ⟨u, fun _ => g0⟩
        · exact ⟨0, fun h => absurd h hi⟩
      have hb : b < W.heap.size := World.block_lt_of_cell? W _ (hx 0 (by omega)).1
      exact ⟨fun i => Classical.choose (key i), .inr ⟨b, off, rfl, hb, fun i hi => Classical.choose_spec (key i) hi⟩⟩
theorem in_of {H : Type} {enc : TypeId × Value → H} {W : World} {a : Option Addr} {len cap : Nat} {d : DataW H} {p : List MemPlace} (h : DataW.Trod enc Yba.prog W 0 (fun _ => true) true 23 (.slice a len cap) d p) : ∃ xs, InAt W a len xs := by
  obtain ⟨fuel, hf⟩ := h
  have hf' : DataW.trod enc Yba.prog W 0 (fun _ => true) true fuel 23 [.slice a len cap] = some (d, p) := by simpa [Value.cells] using hf
  rcases Go.Deep.open_slice1 Yba.underlying23 (by kernel_rfl) hf' with ⟨hcs, _⟩ | ⟨x, l, c, m, n, V, D, Pl, hcs, _, hl, hm, hmm, _, hx⟩
  · simp at hcs
    exact ⟨fun _ => 0, .inl hcs.2.1⟩
  · simp at hcs
    obtain ⟨rfl, rfl, rfl⟩ := hcs
    simp at hmm
    by_cases h0 : len = 0
    · exact ⟨fun _ => 0, .inl h0⟩
    · obtain ⟨b, off, spot⟩ := x
      have hs : spot = none := by simpa [Addr.add] using World.cell?_spot (hx 0 (by omega)).1
      subst hs
      have key : ∀ i, ∃ q : Int, i < len → W.cell? ⟨b, off + i, none⟩ = some (.int .i64 q) := by
        intro i
        by_cases hi : i < len
        · obtain ⟨g0, g1⟩ := hx i (by omega)
          obtain ⟨u, hu, _, _⟩ := DataW.trod_int Yba.underlying3 g1
          simp at hu
          rw [hu, add_plain] at g0
          exact ⟨u, fun _ => g0⟩
        · exact ⟨0, fun h => absurd h hi⟩
      have hb : b < W.heap.size := World.block_lt_of_cell? W _ (hx 0 (by omega)).1
      exact ⟨fun i => Classical.choose (key i), .inr ⟨b, off, rfl, hb, fun i hi => Classical.choose_spec (key i) hi⟩⟩

set_option maxRecDepth 100000 in
theorem lifted (os : Os) (started : os.Started) (H : Type) (enc : TypeId × Value → H) :
    ReturnsInHanded {} Yba.checked os 3 .any (Rows.lawS7475BWholeSpec.pre6 enc Yba.prog Yba.f3 Rows.lawS7475BWholeRow.domain false) (Rows.lawS7475BWholeSpec.post enc Yba.prog Yba.f3 false true false false) := by
  refine returnsInHanded_of_change (C := Yba.checked) own started (by kernel_rfl) Yba.func3
    (ChangeSpec.witness6 (enc := enc) (C := Yba.checked) false ⟨#[], #[.slice none 0 0, .int .u8 0, .slice none 0 0, .int .i64 0, .int .u64 0, .int .u64 0], []⟩ 8 (by kernel_rfl) (by kernel_rfl) (by kernel_rfl) (by kernel_rfl)) ?_
  intro W base args ds gs before hval0 hW hcnd _
  have hval : ∀ (j : Nat) t v, Yba.f3.params[j]? = some t → args[j]? = some v → Value.okWide Yba.prog W .any base t v := hval0
  have hW' := hW
  obtain ⟨p, q, hA0, hV, rfl, hfz, hnd⟩ := hW
  have hA : DataW.TrodAll enc Yba.prog W 0 (fun _ => true) true Yba.f3.params.toList args.toList ds p := hA0
  rw [Yba.params3] at hA hval
  obtain ⟨v0, vs0, d0, ds0, p0, q0, hargs, rfl, rfl, h0, r0⟩ := trodAll_cons hA
  obtain ⟨v1, vs1, d1, ds1, p1, q1, rfl, rfl, rfl, h1, r1⟩ := trodAll_cons r0
  obtain ⟨v2, vs2, d2, ds2, p2, q2, rfl, rfl, rfl, h2, r2⟩ := trodAll_cons r1
  obtain ⟨v3, vs3, d3, ds3, p3, q3, rfl, rfl, rfl, h3, r3⟩ := trodAll_cons r2
  obtain ⟨v4, vs4, d4, ds4, p4, q4, rfl, rfl, rfl, h4, r4⟩ := trodAll_cons r3
  obtain ⟨v5, vs5, d5, ds5, p5, q5, rfl, rfl, rfl, h5, r5⟩ := trodAll_cons r4
  obtain ⟨rfl, rfl, rfl⟩ := trodAll_nil r5
  obtain rfl : args = #[v0, v1, v2, v3, v4, v5] := by cases args; simp_all
  obtain ⟨rfl, rfl⟩ := trodVars_none hV
  obtain ⟨a0, len0, cap0, rfl⟩ := okWide_slice Yba.underlying22 (hval 0 22 v0 rfl rfl)
  obtain ⟨a2, len2, cap2, rfl⟩ := okWide_slice Yba.underlying23 (hval 2 23 v2 rfl rfl)
  have k0 := h0
  have k2 := h2
  have lt0 : ∀ x ∈ p0, x.block < W.heap.size := by obtain ⟨m, hm⟩ := k0; exact DataW.trod_lt m _ _ _ hm
  have lt2 : ∀ x ∈ p2, x.block < W.heap.size := by obtain ⟨m, hm⟩ := k2; exact DataW.trod_lt m _ _ _ hm
  obtain ⟨xs, s0⟩ := fl_of h0
  obtain ⟨bs, s2⟩ := in_of h2
  obtain ⟨a1, rfl, rfl, rfl, w1⟩ := open_int Yba.underlying5 (hval 1 5 v1 rfl rfl) h1
  obtain ⟨a3, rfl, rfl, rfl, w3⟩ := open_int Yba.underlying3 (hval 3 3 v3 rfl rfl) h3
  obtain ⟨a4, rfl, rfl, rfl, w4⟩ := open_int Yba.underlying24 (hval 4 24 v4 rfl rfl) h4
  obtain ⟨a5, rfl, rfl, rfl, w5⟩ := open_int Yba.underlying24 (hval 5 24 v5 rfl rfl) h5
  clear hA0 hval0
  refine (walk a0 len0 cap0 xs a1 a2 len2 cap2 bs a3 a4 a5 W s0 s2 w1 w4 w5).mono fun e W' ⟨he, bel⟩ => ?_
  subst he
  exact ⟨_, rfl, _, _, _, [], _, [], hW', trodAll_mk1 (shut_bool Yba.underlying4 _), (trodAll_cons_mk (Below.trod laidOut (by kernel_rfl) (of_decide_eq_true (by kernel_rfl)) k0 bel lt0) (trodAll_cons_mk (shut_int Yba.underlying5 w1) (trodAll_cons_mk (Below.trod laidOut (by kernel_rfl) (of_decide_eq_true (by kernel_rfl)) k2 bel lt2) (trodAll_cons_mk (shut_int Yba.underlying3 w3) (trodAll_cons_mk (shut_int Yba.underlying24 w4) (trodAll_cons_mk (shut_int Yba.underlying24 w5) trodAll_mk0)))))), rfl, bel.frame _, fun h => by cases h⟩

theorem over : Rows.lawS7475BWholeRow.holds Yba.pinned (OpenSpec.ofChange Rows.lawS7475BWholeSpec) :=
  OpenClaim.holds_of_wide 3 Yba.f3 rfl rfl rfl rfl rfl rfl rfl ⟨rfl, rfl, rfl, rfl, rfl⟩ rfl rfl rfl rfl rfl (by kernel_rfl) Yba.func3 (by kernel_rfl)
    (of_decide_eq_true (by kernel_rfl)) (by unfold Func.isWrapper; first | (rw [if_pos (by decide +kernel)]; kernel_rfl) | (rw [if_neg (by decide +kernel)]; exact ⟨rfl, rfl⟩))
    (fun os started H enc _ => lifted os started H enc)

end Go.Proofs.Ybulkexua.lawS7475BWhole
namespace Go.Proofs.Ybulkexua
/-- THE STATEMENT -/
theorem lawS7475BWhole_proved : Rows.LawS7475BWholeSaid := lawS7475BWhole.over
#print axioms lawS7475BWhole_proved
end Go.Proofs.Ybulkexua

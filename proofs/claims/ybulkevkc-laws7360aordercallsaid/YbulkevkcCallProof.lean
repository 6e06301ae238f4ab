import Derived.Test.YbulkevkcCall
import Derived.OpenShut
import Derived.ShutString
import Derived.ChangeOld
import Derived.Below
namespace Go.Proofs.Ybulkevkc
open Go.ChangeShapes Go.WideShapes Go.ChangeAt Go.RowKit
open Go.ChangeMaps (open_string shut_string)
set_option linter.unusedVariables false

theorem okWide_array {P : Program} {w : World} {r : Reach} {base : Nat} {t e : TypeId} {n : Nat} {v : Value} (ht : P.underlying t = some (.array n e)) (h : Value.okWide P w r base t v) : ∃ cs, v = .agg cs ∧ cs.size = P.cellsOf t := by
  simp only [Value.okWide, ht] at h
  obtain ⟨cs, h1, h2, _⟩ := h
  exact ⟨cs, h1, h2⟩

/-- An array of octets that came in by value. -/
theorem open_octets {H : Type} {enc : TypeId × Value → H} {P : Program} {w : World} {base : Nat} {spare : Nat → Bool} {held : Bool} {r : Reach} {b0 : Nat} {t e : TypeId} {n : Nat} {v : Value} {d : DataW H} {p : List MemPlace}
    (ht : P.underlying t = some (.array n e)) (he : P.underlying e = some (.int .u8)) (hce : P.cellsOf e = 1) (hct : P.cellsOf t = n)
    (hv : Value.okWide P w r b0 t v) (h : DataW.Trod enc P w base spare held t v d p) : ∃ cs, v = .agg cs ∧ Octets cs n ∧ ∀ i, i < n → ∃ x : Int, cs[i]? = some (.int .u8 x) ∧ (Lit.int .u8 x).wf = true := by
  obtain ⟨cs, rfl, hsz⟩ := okWide_array ht hv
  obtain ⟨fuel, hf⟩ := h
  obtain ⟨xs, m, _, _, hl, hxl, hi⟩ := DataW.trod_array ht hf
  have key : ∀ i, i < n → ∃ x : Int, cs[i]? = some (.int .u8 x) ∧ (Lit.int .u8 x).wf = true := by
    intro i hlt
    have h1 := hi i hlt
    rw [List.getElem?_eq_getElem (by omega)] at h1
    obtain ⟨x, hx, _, hw⟩ := DataW.trod_int he h1
    rw [hce] at hx
    have h2 : cs[i]? = some (.int .u8 x) := by
      have h3 := congrArg (fun l => l[0]?) hx
      simpa [Value.cells] using h3
    exact ⟨x, h2, hw⟩
  exact ⟨cs, rfl, ⟨hsz.trans hct, fun i hlt => let ⟨x, h, _⟩ := key i hlt; ⟨x, h⟩⟩, key⟩

namespace lawS7360AOrderCall
theorem own : ownKnob Yba.prog.godebug = none := by kernel_rfl
theorem laidOut : laidOutB Yba.prog = true := by kernel_rfl

theorem walk (hs : Array Value) (v : Int) (w : World) (h1 : Octets hs 24) (h2 : (Lit.int .u32 v).wf = true) :
    Calls Yba.prog 4 #[.agg hs, .int .u32 v] w fun e w' => e = .returned (.bool true) ∧ Below w.heap.size w w' := by
  obtain ⟨x0, e0⟩ := h1.2 20 (by omega)
  obtain ⟨x1, e1⟩ := h1.2 21 (by omega)
  obtain ⟨x2, e2⟩ := h1.2 22 (by omega)
  obtain ⟨x3, e3⟩ := h1.2 23 (by omega)
  have hb := bounds_u32 h2
  exact call_walk hs h1 v x0 x1 x2 x3 w hb.1 hb.2 e0 e1 e2 e3

set_option maxRecDepth 100000 in
theorem lifted (os : Os) (started : os.Started) (H : Type) (enc : TypeId × Value → H) :
    ReturnsInHanded {} Yba.checked os 4 .any (Rows.lawS7360AOrderCallSpec.pre6 enc Yba.prog Yba.f4 Rows.lawS7360AOrderCallRow.domain false) (Rows.lawS7360AOrderCallSpec.post enc Yba.prog Yba.f4 false true false false) := by
  refine returnsInHanded_of_change (C := Yba.checked) own started (by kernel_rfl) Yba.func4
    (ChangeSpec.witness6 (enc := enc) (C := Yba.checked) false ⟨#[], #[.agg #[.int .u8 0, .int .u8 0, .int .u8 0, .int .u8 0, .int .u8 0, .int .u8 0, .int .u8 0, .int .u8 0, .int .u8 0, .int .u8 0, .int .u8 0, .int .u8 0, .int .u8 0, .int .u8 0, .int .u8 0, .int .u8 0, .int .u8 0, .int .u8 0, .int .u8 0, .int .u8 0, .int .u8 0, .int .u8 0, .int .u8 0, .int .u8 0], .int .u32 0], []⟩ 8 (by kernel_rfl) (by kernel_rfl) (by kernel_rfl) (by kernel_rfl)) ?_
  intro W base args ds gs before hval0 hW hcnd _
  have hval : ∀ (j : Nat) t v, Yba.f4.params[j]? = some t → args[j]? = some v → Value.okWide Yba.prog W .any base t v := hval0
  have hW' := hW
  obtain ⟨p, q, hA0, hV, rfl, hfz, hnd⟩ := hW
  have hA : DataW.TrodAll enc Yba.prog W 0 (fun _ => true) true Yba.f4.params.toList args.toList ds p := hA0
  rw [Yba.params4] at hA hval
  obtain ⟨v0, vs0, d0, ds0, p0, q0, hargs, rfl, rfl, h0, r0⟩ := trodAll_cons hA
  obtain ⟨v1, vs1, d1, ds1, p1, q1, rfl, rfl, rfl, h1, r1⟩ := trodAll_cons r0
  obtain ⟨rfl, rfl, rfl⟩ := trodAll_nil r1
  obtain rfl : args = #[v0, v1] := by cases args; simp_all
  obtain ⟨rfl, rfl⟩ := trodVars_none hV
  have k0 := h0
  have lt0 : ∀ x ∈ p0, x.block < W.heap.size := by obtain ⟨m, hm⟩ := k0; exact DataW.trod_lt m _ _ _ hm
  obtain ⟨hs, rfl, hoct, _⟩ := open_octets Yba.underlying22 Yba.underlying5 (by kernel_rfl) (by kernel_rfl) (hval 0 22 v0 rfl rfl) h0
  obtain ⟨a1, rfl, rfl, rfl, w1⟩ := open_int Yba.underlying39 (hval 1 39 v1 rfl rfl) h1
  clear hA0 hval0
  refine (walk hs a1 W hoct w1).mono fun e W' ⟨he, bel⟩ => ?_
  subst he
  exact ⟨_, rfl, _, _, _, [], _, [], hW', trodAll_mk1 (shut_bool Yba.underlying4 _), (trodAll_cons_mk (Below.trod laidOut (by kernel_rfl) (of_decide_eq_true (by kernel_rfl)) k0 bel lt0) (trodAll_cons_mk (shut_int Yba.underlying39 w1) trodAll_mk0)), rfl, bel.frame _, fun h => by cases h⟩

theorem over : Rows.lawS7360AOrderCallRow.holds Yba.pinned (OpenSpec.ofChange Rows.lawS7360AOrderCallSpec) :=
  OpenClaim.holds_of_wide 4 Yba.f4 rfl rfl rfl rfl rfl rfl rfl ⟨rfl, rfl, rfl, rfl, rfl⟩ rfl rfl rfl rfl rfl (by kernel_rfl) Yba.func4 (by kernel_rfl)
    (of_decide_eq_true (by kernel_rfl)) (by unfold Func.isWrapper; first | (rw [if_pos (by decide +kernel)]; kernel_rfl) | (rw [if_neg (by decide +kernel)]; exact ⟨rfl, rfl⟩))
    (fun os started H enc _ => lifted os started H enc)
end lawS7360AOrderCall

/-- THE STATEMENT -/
theorem lawS7360AOrderCall_proved : Rows.LawS7360AOrderCallSaid := lawS7360AOrderCall.over
#print axioms lawS7360AOrderCall_proved
end Go.Proofs.Ybulkevkc

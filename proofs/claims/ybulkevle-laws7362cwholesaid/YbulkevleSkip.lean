import Derived.Test.YbulkevlePlain
set_option linter.unusedVariables false
namespace Go.Proofs.Ybulkevle
open Go.RowKit
theorem ret_int {k : IntKind} {a b : Int} (h : a = b) : Ending.returned (.int k a) = .returned (.int k b) := by rw [h]

theorem last_a (f e l : Int) (w : World) (hf : 0 ≤ f) (he : f ≤ e) (he' : e ≤ 9223372036854775807) (h : 10000000 < f - l) (h' : f - l ≤ 700000000) (hd : e - f ≤ 700000000) :
    Calls Yba.prog 9 #[.int .i64 f, .int .i64 e, .int .i64 l] w fun r w' => r = .returned (.int .i64 (f + (e - f) / 20000000 * 20000000)) ∧ w' = w := by
  go_enter Yba.func9, Yba.ntmps9
  go_wp2
  go_ret
  exact ⟨rfl, rfl⟩
theorem last_b0 (f : Int) (w : World) (hf : 0 ≤ f) (he' : f ≤ 9223372036854775807) :
    Calls Yba.prog 9 #[.int .i64 f, .int .i64 f, .int .i64 (f - 10000000)] w fun r w' => r = .returned (.int .i64 (f - 10000000)) ∧ w' = w := by
  go_enter Yba.func9, Yba.ntmps9
  go_wp2
  go_ret
  exact ⟨rfl, rfl⟩
theorem last_b (f e : Int) (w : World) (hf : 0 ≤ f) (he : f + 10000000 ≤ e) (he' : e ≤ 9223372036854775807) (hd : e - f ≤ 700000000) :
    Calls Yba.prog 9 #[.int .i64 f, .int .i64 e, .int .i64 (f - 10000000)] w fun r w' => r = .returned (.int .i64 (f + 10000000 + (e - f - 10000000) / 20000000 * 20000000)) ∧ w' = w := by
  go_enter Yba.func9, Yba.ntmps9
  go_wp2
  go_ret
  exact ⟨ret_int (by omega), rfl⟩
theorem last_any (l p f e : Int) (m : Nat) (w : World) (hf : f = l + 10000000) (he : e = f + 10000000 * m) (hl : 0 ≤ l) (hp : p ≤ l) (hp' : l - p ≤ 690000000) (he' : e ≤ 9223372036854775807) (hd : e - f ≤ 700000000) :
    Calls Yba.prog 9 #[.int .i64 f, .int .i64 e, .int .i64 p] w fun r w' => r = .returned (.int .i64 (poll l p (m + 1))) ∧ w' = w := by
  by_cases h : p < l
  · refine (last_a f e p w (by omega) (by omega) he' (by omega) (by omega) hd).mono ?_
    rintro r w' ⟨rfl, rfl⟩
    refine ⟨ret_int ?_, rfl⟩
    obtain ⟨q, hq | hq⟩ : ∃ q, m = 2 * q ∨ m = 2 * q + 1 := ⟨m / 2, by omega⟩
    · subst hq; rw [poll_a1 h q]; omega
    · subst hq; rw [show 2 * q + 1 + 1 = 2 * q + 2 from rfl, poll_a2 h q]; omega
  · obtain rfl : p = l := by omega
    by_cases h0 : m = 0
    · subst h0
      obtain rfl : e = f := by omega
      have := last_b0 e w (by omega) he'
      rw [show e - 10000000 = p by omega] at this
      refine this.mono ?_
      rintro r w' ⟨rfl, rfl⟩
      exact ⟨ret_int (by rw [show 0 + 1 = 1 from rfl, poll_b1]), rfl⟩
    · have := last_b f e w (by omega) (by omega) he' hd
      rw [show f - 10000000 = p by omega] at this
      refine this.mono ?_
      rintro r w' ⟨rfl, rfl⟩
      refine ⟨ret_int ?_, rfl⟩
      obtain ⟨q, hq | hq⟩ : ∃ q, m = 2 * q + 1 ∨ m = 2 * q + 2 := ⟨(m - 1) / 2, by omega⟩
      · subst hq; rw [show 2 * q + 1 + 1 = 2 * q + 2 from rfl, poll_b2 q]; omega
      · subst hq; rw [show 2 * q + 2 + 1 = 2 * q + 3 from rfl, poll_b3 q]; omega

/-- What SkipTo's loop keeps. -/
structure Sk (base t : Int) (b : Nat) (w wr : World) (x0 x : St) (k : Nat) : Prop where
  run : run t k x0 = x
  ok : Ok base x
  far : x0.l + 20000 * k ≤ x.l
  sch : Sch wr b x.l x.i x.s
  only : Only b w wr

theorem sk_step {base t : Int} {b m : Nat} {w wr w' : World} {x0 : St} {l i s p : Int} {k : Nat} (ht : t ≤ base + 608999999) (ht' : t ≤ 9223372036854775807) (h : Sk base t b w wr x0 ⟨l, i, s, p⟩ k) (hd : ¬ t ≤ l + slp s)
    (hS : Sch w' b (l + slp s) (idl i) (slq i s)) (hO : Only b (wr.drewN m) w') : Sk base t b w w' x0 (St.step ⟨l, i, s, p⟩) (k + 1) := by
  have h1 := h.far
  have h2 := slp_bd h.ok.inv.2.2.2.2.1 h.ok.inv.2.2.2.2.2.1
  dsimp only at h1 h2
  refine ⟨run_succ h.run hd, h.ok.step ht ht' hd, ?_, hS, (h.only.draws m).trans hO⟩
  simp only [St.step]
  omega
theorem step_p1 {l i s p : Int} (h : 10000000 < l + slp s - p) : Value.int .i64 (l + slp s) = .int .i64 (St.step ⟨l, i, s, p⟩).p := by simp only [St.step]; rw [if_pos h]
theorem step_p2 {l i s p : Int} (h : ¬ 10000000 < l + slp s - p) : Value.int .i64 p = .int .i64 (St.step ⟨l, i, s, p⟩).p := by simp only [St.step]; rw [if_neg h]
theorem jump_end {base t : Int} {b m : Nat} {w wr : World} {x0 : St} {l p : Int} {k : Nat} (h : Sk base t b w wr x0 ⟨l, 51, 10000000, p⟩ k) (hp : p ≤ l) (hd : l + 10000000 < t) :
    run t (k + (((t - (l + 10000000) - 1) / 10000000).toNat + 1)) x0 = ⟨l + 10000000 + (t - (l + 10000000) - 1) / 10000000 * 10000000, 51, 10000000, poll l p (((t - (l + 10000000) - 1) / 10000000).toNat + 1)⟩ ∧
      St.done t ⟨l + 10000000 + (t - (l + 10000000) - 1) / 10000000 * 10000000, 51, 10000000, poll l p (((t - (l + 10000000) - 1) / 10000000).toNat + 1)⟩ ∧
      Sch ((wr.drewN m).setCell ⟨b, 0, none⟩ (.int .i64 (l + 10000000 + (t - (l + 10000000) - 1) / 10000000 * 10000000))) b (l + 10000000 + (t - (l + 10000000) - 1) / 10000000 * 10000000) 51 10000000 ∧
      Only b w ((wr.drewN m).setCell ⟨b, 0, none⟩ (.int .i64 (l + 10000000 + (t - (l + 10000000) - 1) / 10000000 * 10000000))) := by
  refine ⟨?_, ?_, (h.sch.draws m).put0 _, (h.only.draws m).put 0 _⟩
  · rw [run_add, h.run, run_top hp _ (by omega)]
    congr 1
    omega
  · unfold St.done
    simp only [slp_top]
    omega

set_option maxHeartbeats 1000000 in
set_option maxRecDepth 100000 in
theorem skip_walk (b : Nat) (base t : Int) (x0 : St) (w : World) (ht : t ≤ base + 608999999) (ht' : t ≤ 9223372036854775807) (h0 : 0 ≤ base) (hx : Ok base x0) (hS : Sch w b x0.l x0.i x0.s) :
    Calls Yba.prog 5 #[.pointer (some ⟨b, 0, none⟩), .int .i64 t, .int .i64 x0.p] w fun e w' => ∃ x k, run t k x0 = x ∧ x.done t ∧ e = .returned (.int .i64 x.p) ∧ Sch w' b x.l x.i x.s ∧ Only b w w' := by
  go_enter Yba.func5, Yba.ntmps5
  go_wp2_with fail
  go_loopg [2] 40000 (fun g v wr => ∃ x k, 40000 ≤ k + g ∧ v = .int .i64 x.p ∧ Sk base t b w wr x0 x k)
  case atStart => exact ⟨x0, 0, by omega, rfl, rfl, hx, by omega, hS, Only.refl b w⟩
  case round =>
    obtain ⟨x, k, hg, rfl, hK⟩ := hrel
    have hfar : k ≤ 31000 := by have h1 := hK.far; have h2 := hK.ok.hi; have h3 := hx.lo; omega
    obtain ⟨gO, hgO⟩ : ∃ gO, gk = gO + 1 := ⟨gk - 1, by omega⟩
    subst hgO
    obtain ⟨l, i, s, p⟩ := x
    have HS : Hid (Sch wr b l i s) := hK.sch
    have HI : Hid (Inv l i s) := hK.ok.inv
    obtain ⟨i1, i2, i3, i4, i5, i6, i7⟩ := hK.ok.inv
    dsimp only at i1 i2 i3 i4 i5 i6 i7
    have q1 : base ≤ l := hK.ok.lo
    have q2 : l ≤ base + 608999999 := hK.ok.hi
    have q3 : base - 50000000 ≤ p := hK.ok.plo
    have q4 : p ≤ l := hK.ok.phi
    have sb := slp_bd i5 i6
    obtain ⟨sb1, sb2⟩ := sb
    have HK : Hid (Sk base t b w wr x0 ⟨l, i, s, p⟩ k) := hK
    have I7 : Hid (s = 10000000 → i = 51) := i7
    clear hK i7
    by_cases hy : slp s ≤ 9223372036854775807 - l
    · by_cases hd : t ≤ l + slp s
      · go_wp2_with (go_at_call 6; refine (next_yes b l i s _ i1 i2 i5 i6 hy HS.out).mono ?_; rintro e w' ⟨rfl, m, rfl⟩)
        go_ret
        exact ⟨_, k, HK.out.run, hd, rfl, HS.out.draws _, HK.out.only.draws _⟩
      · by_cases hs : s = 10000000
        · subst hs
          obtain rfl : i = 51 := I7.out rfl
          have hsl := slp_top
          obtain ⟨c0, c1, c2⟩ := HS.out.cells
          have f0 := HS.out.free 0
          rw [hsl] at hd hy
          go_wp2_with (go_at_call 6; refine (next_yes b l 51 10000000 _ i1 i2 i5 i6 (by omega) HS.out).mono ?_; rintro e w' ⟨rfl, m, rfl⟩)
          refine (last_any l p (l + 10000000) (l + 10000000 + (t - (l + 10000000) - 1) / 10000000 * 10000000) ((t - (l + 10000000) - 1) / 10000000).toNat _ rfl (by omega) i1 q4 (by omega) (by omega) (by omega)).mono ?_
          rintro e w' ⟨rfl, rfl⟩
          go_wp2_with fail
          go_ret
          obtain ⟨j1, j2, j3, j4⟩ := jump_end (m := m) HK.out q4 (by omega)
          exact ⟨_, _, j1, j2, rfl, j3, j4⟩
        · have hsb : (s == 10000000) = false := by simp [hs]
          obtain ⟨c0, c1, c2⟩ := HS.out.cells
          by_cases hp : 10000000 < l + slp s - p
          · go_wp2_with (first | (go_at_call 6; refine (next_yes b l i s _ i1 i2 i5 i6 hy HS.out).mono ?_; rintro e w' ⟨rfl, m, rfl⟩) | (go_at_call 7; refine (woke_idle b l i s _ HI.out hy (HS.out.draws _)).mono ?_; rintro e w' ⟨rfl, hS', hO'⟩))
            go_roundg gO
            case measure => omega
            case rel => exact ⟨_, k + 1, by omega, step_p1 hp, sk_step ht ht' HK.out (by omega) (by assumption) (by assumption)⟩
          · go_wp2_with (first | (go_at_call 6; refine (next_yes b l i s _ i1 i2 i5 i6 hy HS.out).mono ?_; rintro e w' ⟨rfl, m, rfl⟩) | (go_at_call 7; refine (woke_idle b l i s _ HI.out hy (HS.out.draws _)).mono ?_; rintro e w' ⟨rfl, hS', hO'⟩))
            go_roundg gO
            case measure => omega
            case rel => exact ⟨_, k + 1, by omega, step_p2 (by omega : ¬ 10000000 < l + slp s - p), sk_step ht ht' HK.out (by omega) (by assumption) (by assumption)⟩
    · go_wp2_with (go_at_call 6; refine (next_no b l i s _ i1 i2 i5 i6 (by omega) HS.out).mono ?_; rintro e w' ⟨rfl, m, rfl⟩)
      go_ret
      exact ⟨_, k, HK.out.run, by unfold St.done; dsimp only; omega, rfl, HS.out.draws _, HK.out.only.draws _⟩
end Go.Proofs.Ybulkevle

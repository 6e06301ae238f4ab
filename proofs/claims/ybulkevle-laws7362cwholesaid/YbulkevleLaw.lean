import Derived.Test.YbulkevleSkip
import Derived.Deep.DeepCutAuto
import Derived.Deep.LoopGhost
set_option linter.unusedVariables false
namespace Go.Proofs.Ybulkevle
open Go.RowKit

/-- The law's t. -/
def tim (l off : Int) : Int := if 9223372036854775807 - l < off then 9223372036854775807 else l + off
theorem tim_bd {l off : Int} (hl : 0 ≤ l) (hl' : l ≤ 9223372036854775807) (h0 : 0 ≤ off) (h1 : off ≤ 608999999) : l ≤ tim l off ∧ tim l off ≤ l + 608999999 ∧ tim l off ≤ 9223372036854775807 := by
  unfold tim; split <;> omega

/-- What the law's own loop keeps. -/
structure Mo (base t : Int) (x0 x : St) (k : Nat) : Prop where
  run : run t k x0 = x
  ok : Ok base x

theorem mo_step {base t : Int} {x0 : St} {l i s p : Int} {k : Nat} (sl i2 s2 p2 : Int) (h1 : slp s = sl) (h2 : idl i = i2) (h3 : slq i s = s2) (h4 : (if 10000000 < l + sl - p then l + sl else p) = p2)
    (ht : t ≤ base + 608999999) (ht' : t ≤ 9223372036854775807) (h : Mo base t x0 ⟨l, i, s, p⟩ k) (hd : l + sl < t) : Mo base t x0 ⟨l + sl, i2, s2, p2⟩ (k + 1) := by
  subst h1 h2 h3 h4
  have hd' : ¬ St.done t ⟨l, i, s, p⟩ := by unfold St.done; dsimp only; omega
  exact ⟨run_succ h.run hd', h.ok.step ht ht' hd'⟩
theorem skip_at (b : Nat) (t l i s p : Int) (x : St) (k : Nat) (w : World) (ht : t ≤ l + 608999999) (ht' : t ≤ 9223372036854775807) (h0 : 0 ≤ l) (hx : Ok l ⟨l, i, s, p⟩) (hS : Sch w b l i s) (hr : run t k ⟨l, i, s, p⟩ = x) (hd : x.done t) :
    Calls Yba.prog 5 #[.pointer (some ⟨b, 0, none⟩), .int .i64 t, .int .i64 p] w fun e w' => e = .returned (.int .i64 x.p) ∧ Sch w' b x.l x.i x.s ∧ Only b w w' := by
  refine (skip_walk b l t ⟨l, i, s, p⟩ w ht ht' h0 hx hS).mono ?_
  rintro e w' ⟨x', k', h1, h2, h3, h4, h5⟩
  have e1 : x' = x := by
    rw [← h1, ← hr]
    exact run_unique (by rw [h1]; exact h2) (by rw [hr]; exact hd)
  subst e1
  exact ⟨h3, h4, h5⟩
theorem below_dr {B : Nat} {w w' : World} (h : Below B w w') (n : Nat) : Below B w (w'.drewN n) := ⟨h.os, h.tape, h.output, h.size, h.block⟩
theorem dbl_gt {s σ : Int} (h : σ = slp s) (h' : 10000000 < 2 * σ) : 10000000 = dbl s := by subst h; unfold dbl; rw [if_pos h']
theorem dbl_le {s σ : Int} (h : σ = slp s) (h' : ¬ 10000000 < 2 * σ) : 2 * σ = dbl s := by subst h; unfold dbl; rw [if_neg h']
def iters : Nat := 65536
theorem iters_eq : iters = 65536 := rfl
theorem slp_lo {s : Int} (h : s < 20000) : slp s = 20000 := by unfold slp; rw [if_pos h]
theorem slp_hi {s : Int} (h : ¬ s < 20000) : slp s = s := by unfold slp; rw [if_neg h]
theorem idl_few {i : Int} (h : i < 50) : idl i = i + 1 := by unfold idl; rw [if_pos h]
theorem idl_many {i : Int} (h : ¬ i < 50) : idl i = 51 := by unfold idl; rw [if_neg h]
theorem slq_few {i : Int} (s : Int) (h : i < 50) : slq i s = 20000 := by unfold slq; rw [if_pos h]
theorem slq_many {i s y : Int} (h : ¬ i < 50) (h' : y = dbl s) : slq i s = y := by unfold slq; rw [if_neg h, h']

set_option maxHeartbeats 4000000 in
set_option maxRecDepth 100000 in
theorem law_walk (a : Option Addr) (n c : Nat) (ms ns bk : Int) (w : World) (hn : n ≤ 4096) (hm : 0 ≤ ms ∧ ms ≤ 65535) (hns : 0 ≤ ns ∧ ns ≤ 4294967295) (hbk : 0 ≤ bk ∧ bk ≤ 4294967295)
    (hbuild : Hid (Calls Yba.prog 4 #[.slice a n c] w fun e w' => e = .returned (.pointer (some ⟨w.heap.size, 0, none⟩)) ∧ Bld w w')) :
    Calls Yba.prog 3 #[.slice a n c, .int .u16 ms, .int .u32 ns, .int .u32 bk] w fun e w' => e = .returned (.bool true) ∧ Below w.heap.size w w' := by
  obtain ⟨m1, m2⟩ := hm
  obtain ⟨n1, n2⟩ := hns
  obtain ⟨k1, k2⟩ := hbk
  have hi : (n : Int) ≤ 4096 := by omega
  go_enter Yba.func3, Yba.ntmps3
  go_wp2_with fail
  refine hbuild.out.mono ?_
  rintro e w1 ⟨rfl, hB⟩
  obtain ⟨l, i, s, hI, hS⟩ := hB.sch
  have HBL : Hid (Below w.heap.size w w1) := hB.below
  have HS : Hid (Sch w1 w.heap.size l i s) := hS
  obtain ⟨c0, c1, c2⟩ := hS.cells
  have HI : Hid (Inv l i s) := hI
  obtain ⟨i1, i2, i3, i4, i5, i6, i7⟩ := hI
  clear hB hS i7 hbuild
  go_upto_if 41 with fail
  go_cut [11] (fun v wc => v = .int .i64 (tim l (ms % 600 * 1000000 + ns % 10000000)) ∧ wc = w1)
  case first =>
    by_cases hc : 9223372036854775807 - l < ms % 600 * 1000000 + ns % 10000000
    · go_wp2_with fail
      go_meet
      case rel => exact ⟨by unfold tim; rw [if_pos hc], rfl⟩
    · go_wp2_with fail
      go_meet
      case rel => exact ⟨by unfold tim; rw [if_neg (by omega)], rfl⟩
  case rest =>
    obtain ⟨rfl, hwc⟩ := hcut
    subst hwc
    obtain ⟨t1, t2, t3⟩ := tim_bd (off := ms % 600 * 1000000 + ns % 10000000) i1 i2 (by omega) (by omega)
    generalize tim l (ms % 600 * 1000000 + ns % 10000000) = t at *
    have HOK : Hid (Ok l ⟨l, i, s, l - bk % 50000000⟩) := ⟨HI.out, Int.le_refl l, by dsimp only; omega, by dsimp only; omega, by dsimp only; omega⟩
    go_wp2_with fail
    go_quiet (fail)
    go_wp2_with fail
    go_loopg [13, 14, 15, 16, 17] iters (fun g ml mi ms' pl it wr => ∃ (x : St) (k : Nat), k ≤ iters ∧ iters ≤ k + g ∧ wr = wc.drewN nq ∧ ml = .int .i64 x.l ∧ mi = .int .i64 x.i ∧ ms' = .int .i64 x.s ∧ pl = .int .i64 x.p ∧ it = .int .i64 k ∧ Mo l t ⟨l, i, s, l - bk % 50000000⟩ x k)
    case atStart => exact ⟨⟨l, i, s, l - bk % 50000000⟩, 0, Nat.zero_le _, by omega, rfl, rfl, rfl, rfl, rfl, rfl, rfl, HOK.out⟩
    case round =>
      obtain ⟨⟨l', i', s', p'⟩, k, hk, hg, rfl, rfl, rfl, rfl, rfl, rfl, hM⟩ := hrel
      have hit := iters_eq
      have hkI : (k : Int) ≤ 65536 := by omega
      have HIT : Hid (k ≤ iters ∧ iters ≤ k + gk ∧ iters = 65536) := ⟨hk, hg, hit⟩
      clear hk hg hit
      have j0 := hM.ok.inv
      obtain ⟨j1, j2, j3, j4, j5, j6, j7⟩ := j0
      have g1 := hM.ok.lo
      have g2 := hM.ok.hi
      have g3 := hM.ok.plo
      have g4 := hM.ok.phi
      dsimp only at j1 j2 j3 j4 j5 j6 g1 g2 g3 g4
      have HM : Hid (Mo l t ⟨l, i, s, l - bk % 50000000⟩ ⟨l', i', s', p'⟩ k) := hM
      clear j7 hM
      dsimp only
      by_cases hk2 : (k : Int) < 65536
      · go_upto_if 75 with fail
        obtain ⟨B, hkB, hB⟩ : ∃ B : Int, (k : Int) ≤ B ∧ B ≤ 65536 := ⟨(k : Int), Int.le_refl _, by omega⟩
        have HK2 : Hid (k + 1 ≤ iters) := by have := HIT.out; show k + 1 ≤ iters; omega
        clear hk2 hkI
        go_cut [18] (fun v wd => v = .int .i64 (slp s') ∧ wd = wc.drewN nq)
        case first =>
          by_cases hs : s' < 20000
          · go_wp2_with fail
            go_meet
            case rel => exact ⟨by rw [slp_lo hs], rfl⟩
          · go_wp2_with fail
            go_meet
            case rel => exact ⟨by rw [slp_hi (by omega)], rfl⟩
        case rest =>
          obtain ⟨rfl, hwd⟩ := hcut
          subst hwd
          obtain ⟨σ, hσ⟩ : ∃ σ, σ = slp s' := ⟨_, rfl⟩
          obtain ⟨sb1, sb2⟩ := slp_bd j5 j6
          rw [← hσ] at sb1 sb2
          rw [← hσ]
          have HSG : Hid (σ = slp s') := hσ
          clear hσ
          by_cases hd : t ≤ l' + σ
          · go_wp2_with fail
            all_goals
              have hdn : St.done t ⟨l', i', s', p'⟩ := by unfold St.done; dsimp only; rw [← HSG.out]; exact hd
              refine (skip_at w.heap.size t l i s (l - bk % 50000000) ⟨l', i', s', p'⟩ k _ t2 t3 i1 HOK.out (HS.out.draws _) HM.out.run hdn).mono ?_
              rintro e w2 ⟨rfl, hS2, hO2⟩
              obtain ⟨d0, d1, d2⟩ := hS2.cells
              dsimp only at d0 d1 d2
              have HB2 : Hid (Below w.heap.size w w2) := (below_dr HBL.out _).trans hO2.below
              clear hS2 hO2
              go_wp2_with fail
              go_ret
              exact ⟨rfl, HB2.out⟩
          · have hb1 : σ ≤ 9223372036854775807 - l' := by omega
            by_cases hp : 10000000 < l' + σ - p'
            · by_cases hi2 : i' < 50
              · go_wp2_with fail
                go_roundg (gk - 1)
                case rel => exact ⟨⟨l' + σ, i' + 1, 20000, l' + σ⟩, k + 1, by have := HIT.out; have := HK2.out; omega, by have := HIT.out; have := HK2.out; omega, rfl, rfl, rfl, rfl, rfl, by go_num, mo_step (σ) (i' + 1) (20000) (l' + σ) (HSG.out.symm) (idl_few hi2) (slq_few s' hi2) (if_pos hp) t2 t3 HM.out (by omega)⟩
                case measure => have := HIT.out; have := HK2.out; omega
              · by_cases hd2 : 10000000 < 2 * σ
                · go_wp2_with fail
                  go_roundg (gk - 1)
                  case rel => exact ⟨⟨l' + σ, 51, 10000000, l' + σ⟩, k + 1, by have := HIT.out; have := HK2.out; omega, by have := HIT.out; have := HK2.out; omega, rfl, rfl, rfl, rfl, rfl, by go_num, mo_step (σ) (51) (10000000) (l' + σ) (HSG.out.symm) (idl_many (by omega)) (slq_many (by omega) (dbl_gt HSG.out hd2)) (if_pos hp) t2 t3 HM.out (by omega)⟩
                  case measure => have := HIT.out; have := HK2.out; omega
                · go_wp2_with fail
                  go_roundg (gk - 1)
                  case rel => exact ⟨⟨l' + σ, 51, 2 * σ, l' + σ⟩, k + 1, by have := HIT.out; have := HK2.out; omega, by have := HIT.out; have := HK2.out; omega, rfl, rfl, rfl, rfl, rfl, by go_num, mo_step (σ) (51) (2 * σ) (l' + σ) (HSG.out.symm) (idl_many (by omega)) (slq_many (by omega) (dbl_le HSG.out (by omega))) (if_pos hp) t2 t3 HM.out (by omega)⟩
                  case measure => have := HIT.out; have := HK2.out; omega
            · by_cases hi2 : i' < 50
              · go_wp2_with fail
                go_roundg (gk - 1)
                case rel => exact ⟨⟨l' + σ, i' + 1, 20000, p'⟩, k + 1, by have := HIT.out; have := HK2.out; omega, by have := HIT.out; have := HK2.out; omega, rfl, rfl, rfl, rfl, rfl, by go_num, mo_step (σ) (i' + 1) (20000) (p') (HSG.out.symm) (idl_few hi2) (slq_few s' hi2) (if_neg (by omega)) t2 t3 HM.out (by omega)⟩
                case measure => have := HIT.out; have := HK2.out; omega
              · by_cases hd2 : 10000000 < 2 * σ
                · go_wp2_with fail
                  go_roundg (gk - 1)
                  case rel => exact ⟨⟨l' + σ, 51, 10000000, p'⟩, k + 1, by have := HIT.out; have := HK2.out; omega, by have := HIT.out; have := HK2.out; omega, rfl, rfl, rfl, rfl, rfl, by go_num, mo_step (σ) (51) (10000000) (p') (HSG.out.symm) (idl_many (by omega)) (slq_many (by omega) (dbl_gt HSG.out hd2)) (if_neg (by omega)) t2 t3 HM.out (by omega)⟩
                  case measure => have := HIT.out; have := HK2.out; omega
                · go_wp2_with fail
                  go_roundg (gk - 1)
                  case rel => exact ⟨⟨l' + σ, 51, 2 * σ, p'⟩, k + 1, by have := HIT.out; have := HK2.out; omega, by have := HIT.out; have := HK2.out; omega, rfl, rfl, rfl, rfl, rfl, by go_num, mo_step (σ) (51) (2 * σ) (p') (HSG.out.symm) (idl_many (by omega)) (slq_many (by omega) (dbl_le HSG.out (by omega))) (if_neg (by omega)) t2 t3 HM.out (by omega)⟩
                  case measure => have := HIT.out; have := HK2.out; omega
      · go_wp2_with fail
        have hdn : St.done t ⟨l', i', s', p'⟩ := by rw [← HM.out.run, show k = 65536 by have := HIT.out; omega]; exact run_ends t2 t3 HOK.out
        refine (skip_at w.heap.size t l i s (l - bk % 50000000) ⟨l', i', s', p'⟩ k _ t2 t3 i1 HOK.out (HS.out.draws _) HM.out.run hdn).mono ?_
        rintro e w2 ⟨rfl, hS2, hO2⟩
        obtain ⟨d0, d1, d2⟩ := hS2.cells
        dsimp only at d0 d1 d2
        have HB2 : Hid (Below w.heap.size w w2) := (below_dr HBL.out _).trans hO2.below
        clear hS2 hO2
        go_wp2_with fail
        go_ret
        exact ⟨rfl, HB2.out⟩
end Go.Proofs.Ybulkevle

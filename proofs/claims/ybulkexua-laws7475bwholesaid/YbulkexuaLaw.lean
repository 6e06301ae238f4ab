import Derived.Test.YbulkexuaFin
set_option linter.unusedVariables false
namespace Go.Proofs.Ybulkexua
open Go.RowKit
/-- The cells of a handed slice of floats. -/
def FlAt (w : World) (a : Option Addr) (n : Nat) (x : Nat → Nat) : Prop := n = 0 ∨ ∃ b off, a = some ⟨b, off, none⟩ ∧ b < w.heap.size ∧ ∀ i, i < n → w.cell? ⟨b, off + i, none⟩ = some (.float .f64 (x i))
def InAt (w : World) (a : Option Addr) (n : Nat) (x : Nat → Int) : Prop := n = 0 ∨ ∃ b off, a = some ⟨b, off, none⟩ ∧ b < w.heap.size ∧ ∀ i, i < n → w.cell? ⟨b, off + i, none⟩ = some (.int .i64 (x i))
def val (l wd : Nat) (xs : Nat → Nat) (i j : Nat) : Nat := if i * wd + j < l then xs (i * wd + j) else 4607182418800017408

def bval (lb : Nat) (bs : Nat → Int) (k : Nat) : Int := if k < lb then bs k else -1

set_option maxHeartbeats 4000000 in
set_option maxRecDepth 100000 in
theorem law (a : Option Addr) (l cc : Nat) (xs : Nat → Nat) (x : Int) (ab : Option Addr) (lb cb : Nat) (bs : Nat → Int) (rows o i : Int) (w : World) (N : Nat) (hN : w.heap.size = N) (hfl : FlAt w a l xs) (hin : InAt w ab lb bs) (Bo : Int) (hl : (l : Int) ≤ Bo) (hBo : Bo ≤ 65536) (hx : 0 ≤ x) (hx' : x ≤ 255) (ho0 : 0 ≤ o) (hi0 : 0 ≤ i) (ho1 : o ≤ 18446744073709551615) (hi1 : i ≤ 18446744073709551615) :
    Calls Yba.prog 3 #[.slice a l cc, .int .u8 x, .slice ab lb cb, .int .i64 rows, .int .u64 o, .int .u64 i] w fun e w' => e = .returned (.bool true) ∧ Below N w w' := by
  obtain ⟨wd, hwd, hw1, hw8⟩ : ∃ wd : Nat, x % 8 + 1 = (wd : Int) ∧ 1 ≤ wd ∧ wd ≤ 8 := ⟨(x % 8 + 1).toNat, by omega, by omega, by omega⟩
  obtain ⟨n, hn1, hn2, hnl⟩ : ∃ n : Nat, 1 ≤ n ∧ (n : Int) ≤ 65536 ∧ ((l = 0 ∧ n = 1) ∨ (0 < l ∧ ((l : Int) + wd - 1) / (wd : Int) = n)) := by
    by_cases h0 : l = 0
    · exact ⟨1, Nat.le_refl _, by omega, .inl ⟨h0, rfl⟩⟩
    · obtain ⟨q, hq⟩ : ∃ q : Nat, ((l : Int) + wd - 1) / (wd : Int) = q := ⟨(((l : Int) + wd - 1) / (wd : Int)).toNat, by
        have := Int.ediv_nonneg (a := (l : Int) + wd - 1) (b := wd) (by omega) (by omega)
        omega⟩
      have h1 : ((l : Int) + wd - 1) / (wd : Int) * wd ≤ (l : Int) + wd - 1 := Int.ediv_mul_le _ (by omega)
      have h2 : (l : Int) + wd - 1 < (((l : Int) + wd - 1) / (wd : Int) + 1) * wd := Int.lt_ediv_add_one_mul_self _ (by omega)
      rw [hq] at h1 h2
      refine ⟨q, ?_, ?_, .inr ⟨by omega, hq⟩⟩
      · rcases q with _ | q
        · simp at h2; omega
        · omega
      · by_cases hqq : (q : Int) ≤ 65536
        · exact hqq
        · have : (65537 : Int) * wd ≤ q * wd := Int.mul_le_mul_of_nonneg_right (by omega) (by omega)
          omega
  have HNL : Hid ((l = 0 ∧ n = 1) ∨ (0 < l ∧ ((l : Int) + wd - 1) / (wd : Int) = n)) := hnl
  have HN : Hid (w.heap.size = N) := hN
  have hm25 := run_make_row' (P := Yba.prog) 25 22 (.slice none 0 0) 24 Yba.underlying25 Yba.info22' rfl .i64 .i64 n (by omega) (by omega)
  have hm22 := run_make_row' (P := Yba.prog) 22 26 (.float .f64 0) 8 Yba.underlying22 Yba.info26' rfl .i64 .i64 wd (by omega) (by omega)
  have hm23 := run_make_row' (P := Yba.prog) 23 3 (.int .i64 0) 8 Yba.underlying23 Yba.info3' rfl .i64 .i64 n (by omega) (by omega)
  obtain ⟨Bn, hBn, hBn'⟩ : ∃ Bn : Int, (n : Int) ≤ Bn ∧ Bn ≤ 65536 := ⟨n, Int.le_refl _, hn2⟩
  have HFL : Hid (FlAt w a l xs) := hfl
  have HIN : Hid (InAt w ab lb bs) := hin
  clear hn2 hnl hN hfl hin
  go_enter Yba.func3, Yba.ntmps3
  go_upto_if 50 with fail
  go_cut [14] (fun v wc => v = .int .i64 n ∧ wc = w)
  case first =>
    rcases HNL.out with ⟨rfl, rfl⟩ | ⟨h0, hq⟩
    · have hq : ((0 : Nat) + (wd : Int) - 1) / (wd : Int) = 0 := Int.ediv_eq_zero_of_lt (by omega) (by omega)
      go_wp2_with fail
      go_meet
      case rel => exact ⟨rfl, rfl⟩
    · go_wp2_with fail
      go_meet
      case rel => exact ⟨by rw [hq], rfl⟩
  case rest =>
    obtain ⟨rfl, hwc⟩ := hcut
    subst hwc
    have hNN := HN.out
    go_wp2_with fail
    clear hNN
    go_loopg [17] n (fun g k wr => ∃ i : Nat, i ≤ n ∧ n ≤ i + g ∧ k = .int .i64 i ∧ Tb N n wd wc wr i (val l wd xs) (val l wd xs))
    case atStart => exact ⟨0, by omega, by omega, rfl, Tb.start HN.out⟩
    case round =>
      obtain ⟨k, hk, hg, rfl, ht⟩ := hrel
      have Ht : Hid (Tb N n wd wc wr k (val l wd xs) (val l wd xs)) := ht
      by_cases hlt : k < n
      · obtain ⟨gO, hgO⟩ : ∃ gO, gk = gO + 1 := ⟨gk - 1, by omega⟩
        subst hgO
        have hsz := ht.size
        have c1 := fun (v : Obj) => (ht.t.alloc v).cell hlt
        have c2 := fun (v : Obj) => (ht.t.alloc v).frozen k
        have c3 := fun (v : Obj) (u : Value) (v' : Obj) => (((ht.o.alloc v).setOther (a := ⟨N, k, none⟩) (by show N + 1 ≠ N; omega) u).alloc v').cell hlt
        have c4 := fun (v : Obj) (u : Value) (v' : Obj) => (((ht.o.alloc v).setOther (a := ⟨N, k, none⟩) (by show N + 1 ≠ N; omega) u).alloc v').frozen k
        clear ht
        go_wp2_with fail
        clear c1 c2 c3 c4 hsz
        go_loopg [18] wd (fun g z wq => ∃ j : Nat, j ≤ wd ∧ wd ≤ j + g ∧ z = .int .i64 j ∧ ∃ C, Fill N n wd wc wq (val l wd xs) k j C)
        case atStart => exact ⟨0, by omega, by omega, rfl, _, Fill.begin (C := val l wd xs) Ht.out hlt⟩
        case round =>
          clear Ht
          obtain ⟨j, hj, hg, rfl, C, hf⟩ := hrel
          have Hf : Hid (Fill N n wd wc wr (val l wd xs) k j C) := hf
          by_cases hjlt : j < wd
          · obtain ⟨gI, hgI⟩ : ∃ gI, gk = gI + 1 := ⟨gk - 1, by omega⟩
            subst hgI
            have q1 := hf.tb.t.cell hlt
            unfold rowVal at q1
            rw [if_pos (by omega)] at q1
            have q2 := (hf.tb.rt k (by omega)).cell hjlt
            have q3 := (hf.tb.rt k (by omega)).frozen j
            have q4 := fun (v : Value) => (hf.tb.o.setOther (a := ⟨N + 2 + 2 * k, j, none⟩) (by show N + 1 ≠ N + 2 + 2 * k; omega) v).cell hlt
            unfold rowVal at q4
            rw [if_pos (by omega)] at q4
            have q5 := fun (v : Value) => ((hf.tb.ro k (by omega)).setOther (a := ⟨N + 2 + 2 * k, j, none⟩) (by show N + 3 + 2 * k ≠ N + 2 + 2 * k; omega) v).cell hjlt
            have q6 := fun (v : Value) => ((hf.tb.ro k (by omega)).setOther (a := ⟨N + 2 + 2 * k, j, none⟩) (by show N + 3 + 2 * k ≠ N + 2 + 2 * k; omega) v).frozen j
            have q7 := fun (v : Nat) => store_row (hf.tb.rt k (by omega)) hjlt v
            have q8 := fun (u : Value) (v : Nat) => store_row ((hf.tb.ro k (by omega)).setOther (a := ⟨N + 2 + 2 * k, j, none⟩) (by show N + 3 + 2 * k ≠ N + 2 + 2 * k; omega) u) hjlt v
            have hbl := hf.tb.below
            obtain ⟨p, hp⟩ : ∃ p : Nat, k * wd = p := ⟨_, rfl⟩
            have hpi : (k : Int) * (wd : Int) = (p : Int) := by rw [← hp]; exact (Int.natCast_mul k wd).symm
            obtain ⟨Bp, hBp, hBp'⟩ : ∃ Bp : Int, (p : Int) ≤ Bp ∧ Bp ≤ 524288 := ⟨p, Int.le_refl _, by
              have : (k : Int) * (wd : Int) ≤ 65536 * 8 := Int.mul_le_mul (by omega) (by omega) (by omega) (by omega)
              omega⟩
            have HP : Hid (k * wd = p) := hp
            by_cases hpl : p + j < l
            · rcases HFL.out with h | ⟨b, off, rfl, hb, hc⟩
              · omega
              · have e1 := (hbl.cell (p := ⟨b, off + (p + j), none⟩) (by show b < N; have := HN.out; omega)).trans (hc (p + j) hpl)
                clear hp hf hbl hb hc
                go_wp2_with fail
                go_roundg gI
                case measure => omega
                case rel => exact ⟨j + 1, by omega, by omega, by go_num, _, Hf.out.step (by unfold val; rw [HP.out, if_pos hpl])⟩
            · clear hp hf hbl
              go_wp2_with fail
              go_roundg gI
              case measure => omega
              case rel => exact ⟨j + 1, by omega, by omega, by go_num, _, Hf.out.step (by unfold val; rw [HP.out, if_neg hpl])⟩
          · clear hf
            go_wp2_with fail
            go_roundg gO
            case measure => omega
            case rel => exact ⟨k + 1, by omega, by omega, by go_num, Hf.out.end (by omega)⟩
      · obtain rfl : k = n := by omega
        have hsz := ht.size
        clear ht
        obtain ⟨on, hon, hon'⟩ : ∃ on : Nat, o % (k : Int) = (on : Int) ∧ on < k := ⟨(o % (k : Int)).toNat, by have := Int.emod_nonneg o (b := (k : Int)) (by omega); omega, by have := Int.emod_lt_of_pos o (b := (k : Int)) (by omega); have := Int.emod_nonneg o (b := (k : Int)) (by omega); omega⟩
        obtain ⟨c, hc, hc'⟩ : ∃ c : Nat, i % (wd : Int) = (c : Int) ∧ c < wd := ⟨(i % (wd : Int)).toNat, by have := Int.emod_nonneg i (b := (wd : Int)) (by omega); omega, by have := Int.emod_lt_of_pos i (b := (wd : Int)) (by omega); have := Int.emod_nonneg i (b := (wd : Int)) (by omega); omega⟩
        go_wp2_with fail
        clear hsz
        go_loopg [22] k (fun g z wq => ∃ q : Nat, q ≤ k ∧ k ≤ q + g ∧ z = .int .i64 q ∧ Bas N k wd wc wq (val l wd xs) (bval lb bs) q)
        case atStart => exact ⟨0, by omega, by omega, rfl, Bas.start Ht.out⟩
        case round =>
          clear Ht
          obtain ⟨q, hq, hg, rfl, hb⟩ := hrel
          have Hb : Hid (Bas N k wd wc wr (val l wd xs) (bval lb bs) q) := hb
          by_cases hqlt : q < k
          · obtain ⟨gI, hgI⟩ : ∃ gI, gk = gI + 1 := ⟨gk - 1, by omega⟩
            subst hgI
            have q1 := hb.b.cell hqlt
            have q2 := hb.b.frozen q
            by_cases hql : q < lb
            · rcases HIN.out with h | ⟨b, off, rfl, hbb, hcc⟩
              · omega
              · have e1 := (hb.core.below.cell (p := ⟨b, off + q, none⟩) (by show b < N; have := HN.out; omega)).trans (hcc q hql)
                clear hb hbb hcc
                go_wp2_with fail
                go_roundg gI
                case measure => omega
                case rel => exact ⟨q + 1, by omega, by omega, by go_num, Hb.out.step (by unfold bval; rw [if_pos hql])⟩
            · clear hb
              go_wp2_with fail
              go_roundg gI
              case measure => omega
              case rel => exact ⟨q + 1, by omega, by omega, by go_num, Hb.out.step (by unfold bval; rw [if_neg hql])⟩
          · have hsz := hb.size
            clear hb
            have hray1 : isN 4612811918334230528 = false := by decide
            have hray : (FloatKind.f64.format.order 4612811918334230528 4612811918334230528 != some Ordering.eq) = false := by rw [show FloatKind.f64.format = Ieee.double from rfl, order_self _ hray1]; rfl
            have hw' : (wd : Int) ≤ 65536 := by omega
            obtain ⟨Bm, hm1, hm2, hm3⟩ : ∃ Bm : Int, (k : Int) ≤ Bm ∧ (wd : Int) ≤ Bm ∧ Bm ≤ 65536 := ⟨65536, by omega, hw', Int.le_refl _⟩
            clear hray1 hw'
            go_wp2_with (go_at_call 4; refine (pivot_here Hb.out (by omega) rows on c hon' hc' Bm hm1 hm2 hm3).mono ?_; rintro e wz ⟨rfl, C, hP, hF⟩; have HP : Hid (P2 (val l wd xs) C wd on c k) := hP; have HF : Hid (Fin' N k wd wc wz (val l wd xs) C (fun k => if k = on then (c : Int) else bval lb bs k) rows) := hF; have s0 := hF.s0; have s1 := hF.s1; have s2 := hF.s2; have s3 := hF.s3; have ray := hF.ray; clear hP hF)
            clear Hb hsz ray s2 s3 hray
            go_loopg [27] k (fun g z wq => ∃ q : Nat, q ≤ k ∧ k ≤ q + g ∧ z = .int .i64 q ∧ wz = wq)
            case atStart => exact ⟨0, by omega, by omega, rfl, rfl⟩
            case round =>
              obtain ⟨y, hy, hg, rfl, hwz⟩ := hrel
              subst hwz
              by_cases hylt : y < k
              · obtain ⟨gI, hgI⟩ : ∃ gI, gk = gI + 1 := ⟨gk - 1, by omega⟩
                subst hgI
                have q1 := HF.out.b y hylt
                by_cases hyo : y = on
                · rw [if_pos hyo] at q1
                  subst hyo
                  by_cases hql : y < lb
                  · rcases HIN.out with h | ⟨b, off, rfl, hbb, hcc⟩
                    · omega
                    · have e1 := (HF.out.below.cell (p := ⟨b, off + y, none⟩) (by show b < N; have := HN.out; omega)).trans (hcc y hql)
                      clear hbb hcc
                      go_wp2_with fail
                      go_roundg gI
                      case measure => omega
                      case rel => exact ⟨y + 1, by omega, by omega, by go_num, rfl⟩
                  · go_wp2_with fail
                    go_roundg gI
                    case measure => omega
                    case rel => exact ⟨y + 1, by omega, by omega, by go_num, rfl⟩
                · rw [if_neg hyo] at q1
                  unfold bval at q1
                  have hyo' : ¬ (y : Int) = (on : Int) := by omega
                  by_cases hql : y < lb
                  · rw [if_pos hql] at q1
                    rcases HIN.out with h | ⟨b, off, rfl, hbb, hcc⟩
                    · omega
                    · have e1 := (HF.out.below.cell (p := ⟨b, off + y, none⟩) (by show b < N; have := HN.out; omega)).trans (hcc y hql)
                      clear hbb hcc
                      go_wp2_with fail
                      go_roundg gI
                      case measure => omega
                      case rel => exact ⟨y + 1, by omega, by omega, by go_num, rfl⟩
                  · rw [if_neg hql] at q1
                    go_wp2_with fail
                    go_roundg gI
                    case measure => omega
                    case rel => exact ⟨y + 1, by omega, by omega, by go_num, rfl⟩
              · have q1 := HF.out.o on hon'
                have q2 := HF.out.ro on c hon' hc'
                go_wp2_with fail
                clear q2
                have hq1 := fun (w : World) (x y : Nat) => run_fop .quo (.inl rfl) 26 x y w
                have hq2 := fun (w : World) (x y : Nat) => run_fop .mul (.inr (.inl rfl)) 26 x y w
                have hq3 := fun (w : World) (x y : Nat) => run_fop .sub (.inr (.inr rfl)) 26 x y w
                go_loopg [30] k (fun g z wq => ∃ q : Nat, q ≤ k ∧ k ≤ q + g ∧ z = .int .i64 q ∧ ∃ m, wq = wz.drewN m)
                case atStart => exact ⟨0, by omega, by omega, rfl, 0, rfl⟩
                case round =>
                  obtain ⟨r, hr, hgr, rfl, m, hwm⟩ := hrel
                  subst hwm
                  by_cases hrlt : r < k
                  · obtain ⟨gO, hgO⟩ : ∃ gO, gk = gO + 1 := ⟨gk - 1, by omega⟩
                    subst hgO
                    have t1 := HF.out.t r hrlt
                    have o1 := HF.out.o r hrlt
                    have o2 := HF.out.ro r c hrlt hc'
                    go_wp2_with fail
                    go_loopg [31] wd (fun g z wq => ∃ j : Nat, j ≤ wd ∧ wd ≤ j + g ∧ z = .int .i64 j ∧ ∃ m, wq = wz.drewN m)
                    case atStart => exact ⟨0, by omega, by omega, rfl, m, rfl⟩
                    case round =>
                      obtain ⟨j, hj, hgj, rfl, m', hwm⟩ := hrel
                      subst hwm
                      by_cases hjlt : j < wd
                      · obtain ⟨gI, hgI⟩ : ∃ gI, gk = gI + 1 := ⟨gk - 1, by omega⟩
                        subst hgI
                        have u1 := HF.out.rt r j hrlt hjlt
                        have u2 := HF.out.ro r j hrlt hjlt
                        have u3 := HF.out.ro on j hon' hjlt
                        by_cases hro : r = on
                        · subst hro
                          have hFe := fun (w : World) => feq_row HP.out hjlt w
                          go_wp2_with (go_at_call 5; refine (eq_calls _ _ _ (hFe _)).mono ?_; rintro e w' ⟨rfl, rfl⟩)
                          go_roundg gI
                          case measure => omega
                          case rel => exact ⟨j + 1, by omega, by omega, by go_num, _, rfl⟩
                        · have hro' : ¬ (r : Int) = (on : Int) := by omega
                          cases hz : isZ (val l wd xs r c) with
                          | true =>
                            have hFe : Feq (C r j) (val l wd xs r j) := .inl (feq_zero HP.out hrlt hro hz)
                            have hz' := hz
                            unfold isZ at hz'
                            clear hz
                            go_wp2_with (go_at_call 5; refine (eq_calls _ _ _ hFe).mono ?_; rintro e w' ⟨rfl, rfl⟩)
                            go_roundg gI
                            case measure => omega
                            case rel => exact ⟨j + 1, by omega, by omega, by go_num, _, rfl⟩
                          | false =>
                            have hFe := fun (w1 w2 w3 : World) => feq_red HP.out hjlt hrlt hro hz w1 w2 w3
                            have hz' := hz
                            unfold isZ at hz'
                            clear hz
                            go_wp2_with (go_at_call 5; refine (eq_calls _ _ _ (hFe _ _ _)).mono ?_; rintro e w' ⟨rfl, rfl⟩)
                            go_roundg gI
                            case measure => omega
                            case rel => exact ⟨j + 1, by omega, by omega, by go_num, _, rfl⟩
                      · go_wp2_with fail
                        go_roundg gO
                        case measure => omega
                        case rel => exact ⟨r + 1, by omega, by omega, by go_num, _, rfl⟩
                  · go_wp2_with fail
                    go_ret
                    exact ⟨rfl, ⟨HF.out.below.os, HF.out.below.tape, HF.out.below.output, HF.out.below.size, HF.out.below.block⟩⟩
end Go.Proofs.Ybulkexua

import Derived.Test.YbulkevleWoke
import Derived.Deep.LoopGhost
set_option linter.unusedVariables false
namespace Go.Proofs.Ybulkevle
open Go.RowKit

/-- What every Schedule that the script makes keeps. -/
def Inv (l i s : Int) : Prop := 0 ≤ l ∧ l ≤ 9223372036854775807 ∧ 0 ≤ i ∧ i ≤ 51 ∧ 0 ≤ s ∧ s ≤ 10000000 ∧ (s = 10000000 → i = 51)

/-- The script as it lies in memory. -/
def OpsAt (w : World) (b off n : Nat) (o a : Nat → Int) : Prop := ∀ i, i < n → w.cell? ⟨b, off + i * 2, none⟩ = some (.int .u8 (o i)) ∧ w.cell? ⟨b, off + i * 2 + 1, none⟩ = some (.int .u32 (a i)) ∧ 0 ≤ o i ∧ o i ≤ 255 ∧ 0 ≤ a i ∧ a i ≤ 4294967295

/-- What the building loop keeps. -/
structure Bld (w wr : World) : Prop where
  below : Below w.heap.size w wr
  sch : ∃ l i s, Inv l i s ∧ Sch wr w.heap.size l i s

theorem Sch.alloc {w : World} {b : Nat} {l i s : Int} (h : Sch w b l i s) (o : Obj) : Sch (w.alloc o) b l i s := (Below.heap_alloc w o b h.lt).trans h
theorem Sch.other {w w' : World} {b : Nat} {l i s : Int} (h : Sch w b l i s) (hk : w'.heap[b]? = w.heap[b]?) : Sch w' b l i s := hk.trans h
theorem bld_start (w : World) : Bld w (w.alloc (.cells #[.int .i64 0, .int .i64 0, .int .i64 0] 29)) :=
  ⟨(Below.refl _ w).alloc (Nat.le_refl _) _, 0, 0, 0, ⟨by omega, by omega, by omega, by omega, by omega, by omega, fun h => by cases h⟩, heap_alloc_new _ _⟩
/-- A step of the script: whatever only turns the Schedule's own block and keeps Inv. -/
theorem bld_step {w wr w1 w2 : World} (hb : Below w.heap.size w wr) (h1 : Below wr.heap.size wr w1) (hn : w.heap.size < wr.heap.size) (h2 : Only w.heap.size w1 w2) {l i s : Int} (hI : Inv l i s) (hS : Sch w2 w.heap.size l i s) : Bld w w2 :=
  ⟨(hb.trans (h1.mono (by omega))).trans h2.below, l, i, s, hI, hS⟩
theorem below_new (wr : World) (o : Obj) : Below wr.heap.size wr (wr.alloc o) := (Below.refl _ wr).alloc (Nat.le_refl _) o
theorem below_new' (wr : World) (o : Obj) (m : Nat) : Below wr.heap.size wr ((wr.alloc o).drewN m) := ⟨rfl, rfl, rfl, by show wr.heap.size ≤ (wr.alloc o).heap.size; simp, fun k hk => Below.heap_alloc wr o k hk⟩

theorem inv_acted {l i s : Int} (h : Inv l i s) (h' : slp s ≤ 9223372036854775807 - l) : Inv (l + slp s) 0 20000 := by
  obtain ⟨h1, h2, h3, h4, h5, h6, h7⟩ := h
  have := slp_bd h5 h6
  exact ⟨by omega, by omega, by omega, by omega, by omega, by omega, by omega⟩
theorem inv_few {l i s : Int} (h : Inv l i s) (hi : i < 50) (h' : slp s ≤ 9223372036854775807 - l) : Inv (l + slp s) (i + 1) 20000 := by
  obtain ⟨h1, h2, h3, h4, h5, h6, h7⟩ := h
  have := slp_bd h5 h6
  exact ⟨by omega, by omega, by omega, by omega, by omega, by omega, by omega⟩
theorem inv_many {l i s : Int} (h : Inv l i s) (h' : slp s ≤ 9223372036854775807 - l) : Inv (l + slp s) 51 (dbl s) := by
  obtain ⟨h1, h2, h3, h4, h5, h6, h7⟩ := h
  have := slp_bd h5 h6
  have := dbl_bd h5 h6
  exact ⟨by omega, by omega, by omega, by omega, by omega, by omega, fun _ => rfl⟩
theorem inv_shift {l i s d : Int} (h : Inv l i s) (h0 : 0 ≤ l + d) (h1 : l + d ≤ 9223372036854775807) : Inv (l + d) i s := by
  obtain ⟨_, _, h3⟩ := h
  exact ⟨h0, h1, h3⟩

/-- Woke(false), both ways in one. -/
def idl (i : Int) : Int := if i < 50 then i + 1 else 51
def slq (i s : Int) : Int := if i < 50 then 20000 else dbl s
theorem woke_idle (b : Nat) (l i s : Int) (w : World) (hI : Inv l i s) (h : slp s ≤ 9223372036854775807 - l) (hS : Sch w b l i s) :
    Calls Yba.prog 7 #[.pointer (some ⟨b, 0, none⟩), .bool false] w fun e w' => e = .returned (.tuple #[]) ∧ Sch w' b (l + slp s) (idl i) (slq i s) ∧ Only b w w' := by
  obtain ⟨h1, h2, h3, h4, h5, h6, h7⟩ := hI
  unfold idl slq
  by_cases hi : i < 50
  · rw [if_pos hi, if_pos hi]; exact woke_few b l i s w h1 h2 h3 hi h5 h6 h hS
  · rw [if_neg hi, if_neg hi]; exact woke_many b l i s w h1 h2 (by omega) h4 h5 h6 h hS
theorem inv_idle {l i s : Int} (h : Inv l i s) (h' : slp s ≤ 9223372036854775807 - l) : Inv (l + slp s) (idl i) (slq i s) := by
  unfold idl slq
  by_cases hi : i < 50
  · rw [if_pos hi, if_pos hi]; exact inv_few h hi h'
  · rw [if_neg hi, if_neg hi]; exact inv_many h h'

theorem below_draw' (wr : World) (m : Nat) : Below wr.heap.size wr (wr.drewN m) := ⟨rfl, rfl, rfl, Nat.le_refl _, fun _ _ => rfl⟩

set_option maxHeartbeats 2000000 in
set_option maxRecDepth 100000 in
theorem build_walk (b off n c : Nat) (o a : Nat → Int) (w : World) (hb : b < w.heap.size) (hn : n ≤ 4096) (hO : OpsAt w b off n o a) :
    Calls Yba.prog 4 #[.slice (some ⟨b, off, none⟩) n c] w fun e w' => e = .returned (.pointer (some ⟨w.heap.size, 0, none⟩)) ∧ Bld w w' := by
  go_enter Yba.func4, Yba.ntmps4
  go_wp2_with fail
  go_loopg [4] n (fun g i wr => ∃ k : Nat, k ≤ n ∧ n ≤ k + g ∧ i = .int .i64 k ∧ Bld w wr)
  case atStart => exact ⟨0, by omega, by omega, rfl, bld_start w⟩
  case round =>
    obtain ⟨k, hk, hg, rfl, hB⟩ := hrel
    by_cases hlt : k < n
    · obtain ⟨gO, hgO⟩ : ∃ gO, gk = gO + 1 := ⟨gk - 1, by omega⟩
      subst hgO
      obtain ⟨o1, o2, o3, o4, o5, o6⟩ := hO k hlt
      obtain ⟨l, i, s, hI, hS⟩ := hB.sch
      have hbl := hB.below
      have e1 := (hbl.cell (p := ⟨b, off + k * 2, none⟩) hb).trans o1
      have e2 := (hbl.cell (p := ⟨b, off + k * 2 + 1, none⟩) hb).trans o2
      have hbw : b < wr.heap.size := Nat.lt_of_lt_of_le hb hbl.size
      have hi : (k : Int) < (n : Int) := by omega
      have hlt1 := hS.lt
      obtain ⟨c0, c1, c2⟩ := hS.cells
      clear o1 o2 hB
      have HBL : Hid (Below w.heap.size w wr) := hbl
      have HS : Hid (Sch wr w.heap.size l i s) := hS
      clear hbl hS
      generalize o k = x at *
      generalize a k = y at *
      have HI : Hid (Inv l i s) := hI
      obtain ⟨i1, i2, i3, i4, i5, i6, i7⟩ := hI
      clear i7
      have hI := HI.out
      clear HI
      rcases (show x % 8 = 0 ∨ x % 8 = 1 ∨ x % 8 = 2 ∨ x % 8 = 3 ∨ x % 8 = 4 ∨ x % 8 = 5 ∨ x % 8 = 6 ∨ x % 8 = 7 from by omega) with hx | hx | hx | hx | hx | hx | hx | hx
      · by_cases hy : slp s ≤ 9223372036854775807 - l
        · go_wp2_with (first | (go_at_call 6; refine (next_yes w.heap.size l i s _ i1 i2 i5 i6 hy (HS.out.alloc _)).mono ?_; rintro e w' ⟨rfl, m, rfl⟩) | (go_at_call 7; refine (woke_acted w.heap.size l i s _ i1 i2 i5 i6 hy ((HS.out.alloc _).draws _)).mono ?_; rintro e w' ⟨rfl, hS', hO'⟩))
          go_roundg gO
          case measure => omega
          case rel => exact ⟨k + 1, by omega, by omega, by go_num, bld_step HBL.out (below_new' wr _ _) hlt1 (by assumption) (inv_acted hI hy) (by assumption)⟩
        · go_wp2_with (go_at_call 6; refine (next_no w.heap.size l i s _ i1 i2 i5 i6 (by omega) (HS.out.alloc _)).mono ?_; rintro e w' ⟨rfl, m, rfl⟩)
          go_roundg gO
          case measure => omega
          case rel => exact ⟨k + 1, by omega, by omega, by go_num, bld_step HBL.out (below_new' wr _ _) hlt1 (Only.refl _ _) hI (HS.out.alloc _)⟩
      · go_wp2_with fail
        go_loopg [9] (y % 100).toNat (fun g j wq => ∃ q : Nat, (q : Int) ≤ y % 100 ∧ y % 100 ≤ q + g ∧ j = .int .i64 q ∧ Bld w wq)
        case atStart => exact ⟨0, by omega, by omega, rfl, ⟨(HBL.out.trans ((below_new wr _).mono (by omega))), l, i, s, hI, HS.out.alloc _⟩⟩
        case round =>
          obtain ⟨q, hq, hgq, rfl, hBq⟩ := hrel
          clear hx hI HS HBL c0 c1 c2
          by_cases hql : (q : Int) < y % 100
          · obtain ⟨gI, hgI⟩ : ∃ gI, gk = gI + 1 := ⟨gk - 1, by omega⟩
            subst hgI
            obtain ⟨l, i, s, hI, hS⟩ := hBq.sch
            have hlt2 := hS.lt
            have hbl2 := hBq.below
            have HS : Hid (Sch wr w.heap.size l i s) := hS
            have HBL : Hid (Below w.heap.size w wr) := hbl2
            have HI : Hid (Inv l i s) := hI
            clear hS hbl2 hI hBq
            obtain ⟨i1, i2, i3, i4, i5, i6, i7⟩ := HI.out
            clear i7
            by_cases hy : slp s ≤ 9223372036854775807 - l
            · go_wp2_with (first | (go_at_call 6; refine (next_yes w.heap.size l i s _ i1 i2 i5 i6 hy HS.out).mono ?_; rintro e w' ⟨rfl, m, rfl⟩) | (go_at_call 7; refine (woke_idle w.heap.size l i s _ HI.out hy (HS.out.draws _)).mono ?_; rintro e w' ⟨rfl, hS', hO'⟩))
              go_roundg gI
              case measure => omega
              case rel => exact ⟨q + 1, by omega, by omega, by go_num, bld_step HBL.out (below_draw' wr _) hlt2 (by assumption) (inv_idle HI.out hy) (by assumption)⟩
            · go_wp2_with (go_at_call 6; refine (next_no w.heap.size l i s _ i1 i2 i5 i6 (by omega) HS.out).mono ?_; rintro e w' ⟨rfl, m, rfl⟩)
              go_roundg gO
              case measure => omega
              case rel => exact ⟨k + 1, by omega, by omega, by go_num, bld_step HBL.out (below_draw' wr _) hlt2 (Only.refl _ _) HI.out (HS.out.draws _)⟩
          · go_wp2_with fail
            go_roundg gO
            case measure => omega
            case rel => exact ⟨k + 1, by omega, by omega, by go_num, hBq⟩
      · go_wp2_with fail
        go_loopg [9] (y % 100).toNat (fun g j wq => ∃ q : Nat, (q : Int) ≤ y % 100 ∧ y % 100 ≤ q + g ∧ j = .int .i64 q ∧ Bld w wq)
        case atStart => exact ⟨0, by omega, by omega, rfl, ⟨(HBL.out.trans ((below_new wr _).mono (by omega))), l, i, s, hI, HS.out.alloc _⟩⟩
        case round =>
          obtain ⟨q, hq, hgq, rfl, hBq⟩ := hrel
          clear hx hI HS HBL c0 c1 c2
          by_cases hql : (q : Int) < y % 100
          · obtain ⟨gI, hgI⟩ : ∃ gI, gk = gI + 1 := ⟨gk - 1, by omega⟩
            subst hgI
            obtain ⟨l, i, s, hI, hS⟩ := hBq.sch
            have hlt2 := hS.lt
            have hbl2 := hBq.below
            have HS : Hid (Sch wr w.heap.size l i s) := hS
            have HBL : Hid (Below w.heap.size w wr) := hbl2
            have HI : Hid (Inv l i s) := hI
            clear hS hbl2 hI hBq
            obtain ⟨i1, i2, i3, i4, i5, i6, i7⟩ := HI.out
            clear i7
            by_cases hy : slp s ≤ 9223372036854775807 - l
            · go_wp2_with (first | (go_at_call 6; refine (next_yes w.heap.size l i s _ i1 i2 i5 i6 hy HS.out).mono ?_; rintro e w' ⟨rfl, m, rfl⟩) | (go_at_call 7; refine (woke_idle w.heap.size l i s _ HI.out hy (HS.out.draws _)).mono ?_; rintro e w' ⟨rfl, hS', hO'⟩))
              go_roundg gI
              case measure => omega
              case rel => exact ⟨q + 1, by omega, by omega, by go_num, bld_step HBL.out (below_draw' wr _) hlt2 (by assumption) (inv_idle HI.out hy) (by assumption)⟩
            · go_wp2_with (go_at_call 6; refine (next_no w.heap.size l i s _ i1 i2 i5 i6 (by omega) HS.out).mono ?_; rintro e w' ⟨rfl, m, rfl⟩)
              go_roundg gO
              case measure => omega
              case rel => exact ⟨k + 1, by omega, by omega, by go_num, bld_step HBL.out (below_draw' wr _) hlt2 (Only.refl _ _) HI.out (HS.out.draws _)⟩
          · go_wp2_with fail
            go_roundg gO
            case measure => omega
            case rel => exact ⟨k + 1, by omega, by omega, by go_num, hBq⟩
      · go_wp2_with fail
        go_loopg [9] (y % 100).toNat (fun g j wq => ∃ q : Nat, (q : Int) ≤ y % 100 ∧ y % 100 ≤ q + g ∧ j = .int .i64 q ∧ Bld w wq)
        case atStart => exact ⟨0, by omega, by omega, rfl, ⟨(HBL.out.trans ((below_new wr _).mono (by omega))), l, i, s, hI, HS.out.alloc _⟩⟩
        case round =>
          obtain ⟨q, hq, hgq, rfl, hBq⟩ := hrel
          clear hx hI HS HBL c0 c1 c2
          by_cases hql : (q : Int) < y % 100
          · obtain ⟨gI, hgI⟩ : ∃ gI, gk = gI + 1 := ⟨gk - 1, by omega⟩
            subst hgI
            obtain ⟨l, i, s, hI, hS⟩ := hBq.sch
            have hlt2 := hS.lt
            have hbl2 := hBq.below
            have HS : Hid (Sch wr w.heap.size l i s) := hS
            have HBL : Hid (Below w.heap.size w wr) := hbl2
            have HI : Hid (Inv l i s) := hI
            clear hS hbl2 hI hBq
            obtain ⟨i1, i2, i3, i4, i5, i6, i7⟩ := HI.out
            clear i7
            by_cases hy : slp s ≤ 9223372036854775807 - l
            · go_wp2_with (first | (go_at_call 6; refine (next_yes w.heap.size l i s _ i1 i2 i5 i6 hy HS.out).mono ?_; rintro e w' ⟨rfl, m, rfl⟩) | (go_at_call 7; refine (woke_idle w.heap.size l i s _ HI.out hy (HS.out.draws _)).mono ?_; rintro e w' ⟨rfl, hS', hO'⟩))
              go_roundg gI
              case measure => omega
              case rel => exact ⟨q + 1, by omega, by omega, by go_num, bld_step HBL.out (below_draw' wr _) hlt2 (by assumption) (inv_idle HI.out hy) (by assumption)⟩
            · go_wp2_with (go_at_call 6; refine (next_no w.heap.size l i s _ i1 i2 i5 i6 (by omega) HS.out).mono ?_; rintro e w' ⟨rfl, m, rfl⟩)
              go_roundg gO
              case measure => omega
              case rel => exact ⟨k + 1, by omega, by omega, by go_num, bld_step HBL.out (below_draw' wr _) hlt2 (Only.refl _ _) HI.out (HS.out.draws _)⟩
          · go_wp2_with fail
            go_roundg gO
            case measure => omega
            case rel => exact ⟨k + 1, by omega, by omega, by go_num, hBq⟩
      · go_wp2_with fail
        go_loopg [9] (y % 100).toNat (fun g j wq => ∃ q : Nat, (q : Int) ≤ y % 100 ∧ y % 100 ≤ q + g ∧ j = .int .i64 q ∧ Bld w wq)
        case atStart => exact ⟨0, by omega, by omega, rfl, ⟨(HBL.out.trans ((below_new wr _).mono (by omega))), l, i, s, hI, HS.out.alloc _⟩⟩
        case round =>
          obtain ⟨q, hq, hgq, rfl, hBq⟩ := hrel
          clear hx hI HS HBL c0 c1 c2
          by_cases hql : (q : Int) < y % 100
          · obtain ⟨gI, hgI⟩ : ∃ gI, gk = gI + 1 := ⟨gk - 1, by omega⟩
            subst hgI
            obtain ⟨l, i, s, hI, hS⟩ := hBq.sch
            have hlt2 := hS.lt
            have hbl2 := hBq.below
            have HS : Hid (Sch wr w.heap.size l i s) := hS
            have HBL : Hid (Below w.heap.size w wr) := hbl2
            have HI : Hid (Inv l i s) := hI
            clear hS hbl2 hI hBq
            obtain ⟨i1, i2, i3, i4, i5, i6, i7⟩ := HI.out
            clear i7
            by_cases hy : slp s ≤ 9223372036854775807 - l
            · go_wp2_with (first | (go_at_call 6; refine (next_yes w.heap.size l i s _ i1 i2 i5 i6 hy HS.out).mono ?_; rintro e w' ⟨rfl, m, rfl⟩) | (go_at_call 7; refine (woke_idle w.heap.size l i s _ HI.out hy (HS.out.draws _)).mono ?_; rintro e w' ⟨rfl, hS', hO'⟩))
              go_roundg gI
              case measure => omega
              case rel => exact ⟨q + 1, by omega, by omega, by go_num, bld_step HBL.out (below_draw' wr _) hlt2 (by assumption) (inv_idle HI.out hy) (by assumption)⟩
            · go_wp2_with (go_at_call 6; refine (next_no w.heap.size l i s _ i1 i2 i5 i6 (by omega) HS.out).mono ?_; rintro e w' ⟨rfl, m, rfl⟩)
              go_roundg gO
              case measure => omega
              case rel => exact ⟨k + 1, by omega, by omega, by go_num, bld_step HBL.out (below_draw' wr _) hlt2 (Only.refl _ _) HI.out (HS.out.draws _)⟩
          · go_wp2_with fail
            go_roundg gO
            case measure => omega
            case rel => exact ⟨k + 1, by omega, by omega, by go_num, hBq⟩
      · by_cases hd : y * 1000 ≤ 9223372036854775807 - l
        · go_wp2_with (go_at_call 8; refine (shift_any w.heap.size l i s (y * 1000) _ (by omega) (by omega) (HS.out.alloc _)).mono ?_; rintro e w' ⟨rfl, hS', hO'⟩)
          go_roundg gO
          case measure => omega
          case rel => exact ⟨k + 1, by omega, by omega, by go_num, bld_step HBL.out (below_new wr _) hlt1 (by assumption) (inv_shift (d := y * 1000) hI (by omega) (by omega)) (by assumption)⟩
        · go_wp2_with fail
          go_roundg gO
          case measure => omega
          case rel => exact ⟨k + 1, by omega, by omega, by go_num, bld_step HBL.out (below_new wr _) hlt1 (Only.refl _ _) hI (HS.out.alloc _)⟩
      · by_cases hd : y * 1000 ≤ 9223372036854775807 - l
        · go_wp2_with (go_at_call 8; refine (shift_any w.heap.size l i s (y * 1000) _ (by omega) (by omega) (HS.out.alloc _)).mono ?_; rintro e w' ⟨rfl, hS', hO'⟩)
          go_roundg gO
          case measure => omega
          case rel => exact ⟨k + 1, by omega, by omega, by go_num, bld_step HBL.out (below_new wr _) hlt1 (by assumption) (inv_shift (d := y * 1000) hI (by omega) (by omega)) (by assumption)⟩
        · go_wp2_with fail
          go_roundg gO
          case measure => omega
          case rel => exact ⟨k + 1, by omega, by omega, by go_num, bld_step HBL.out (below_new wr _) hlt1 (Only.refl _ _) hI (HS.out.alloc _)⟩
      · go_wp2_with fail
        go_quiet (fail)
        go_wp2_with (go_at_call 8; refine (shift_any w.heap.size l i s (9223372036854775807 - l - y % 50000000) _ (by omega) (by omega) ((HS.out.alloc _).draws _)).mono ?_; rintro e w' ⟨rfl, hS', hO'⟩)
        go_roundg gO
        case measure => omega
        case rel => exact ⟨k + 1, by omega, by omega, by go_num, bld_step HBL.out (below_new' wr _ _) hlt1 (by assumption) (inv_shift (d := 9223372036854775807 - l - y % 50000000) hI (by omega) (by omega)) (by assumption)⟩
    · go_wp2_with fail
      go_ret
      exact ⟨rfl, hB⟩
end Go.Proofs.Ybulkevle

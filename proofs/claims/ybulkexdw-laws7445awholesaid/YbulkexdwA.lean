import Derived.Test.YbulkexdwHeld
import Derived.Deep.DeepCutAuto
import Derived.Laws.StructEq
import Derived.LaidEql
import Derived.Lib.Builder
set_option linter.unusedVariables false
namespace Go.Proofs.Ybulkexdw
open Go.RowKit

/-- The walkers' marks as they came in. -/
def UpsAt (w : World) (a : Option Addr) (n : Nat) (lo hi : Nat → Int) : Prop :=
  n = 0 ∨ ∃ b off, a = some ⟨b, off, none⟩ ∧ b < w.heap.size ∧ ∀ i, i < n → w.cell? ⟨b, off + i * 2, none⟩ = some (.int .i64 (lo i)) ∧ w.cell? ⟨b, off + i * 2 + 1, none⟩ = some (.int .i64 (hi i))

def tCells (p : Value) : Array Value := #[.nilIface, .nilIface, p, .int .u32 0, .int .u32 0, .nilIface, .bool false, .slice none 0 0, .slice none 0 0, .slice none 0 0, .slice none 0 0]
/-- Loop 1: k walkers filled. -/
structure L1 (w wr : World) (n : Nat) (lo hi : Nat → Int) (k : Nat) : Prop where
  below : Below w.heap.size w wr
  size : wr.heap.size = w.heap.size + 1 + 1
  t : wr.heap[w.heap.size]? = some (.cells (tCells (.pointer none)) 46 (0, 0))
  row : ∃ f, wr.rowIs (w.heap.size + 1) 58 (n * 8) f ∧ ∀ i, i < k → f (i * 8 + 1) = .int .i64 (lo i) ∧ f (i * 8 + 2) = .int .i64 (hi i)

def wcells : Array Value := #[.pointer none, .int .i64 0, .int .i64 0, .pointer none, .int .u8 0, .int .i64 0, .bool false, .int .i64 0]
theorem Yba.info58 : (Yba.prog.info? 58).map (fun i => (i.zero, i.size, i.bytes)) = some (some (.agg wcells), 8, 64) := by kernel_rfl
theorem make_walkers (n : Nat) (hn : n ≤ 1048576) (w : World) : (Instr.makeSlice 49 (.int .i64 (n : Int)) (.int .i64 (n : Int))).run Yba.prog w = .ok (.slice (some ⟨w.heap.size, 0, none⟩) n n) (w.alloc (.cells (madeCells wcells (n * 8)) 58)) := by
  obtain ⟨i, hi, hz0, hz1, hz2⟩ := info_parts Yba.info58
  have := run_make (P := Yba.prog) w 49 58 i (.agg wcells) Yba.underlying49 hi hz0 .i64 .i64 n n (by omega) (Int.le_refl _) (by rw [hz2]; omega) (by omega)
  simpa [hz1, Value.cells] using this

theorem l1_start (w : World) (n : Nat) (lo hi : Nat → Int) : L1 w ((w.alloc (.cells (tCells (.pointer none)) 46)).alloc (.cells (madeCells wcells (n * 8)) 58)) n lo hi 0 := by
  refine ⟨((Below.refl _ w).alloc (Nat.le_refl _) _).alloc (by simp) _, by simp, ?_, fun j => (madeCells wcells (n * 8)).getD j undef, ⟨madeCells wcells (n * 8), ?_, size_madeCells _ _, ?_⟩, fun i hi => by omega⟩
  · rw [Below.heap_alloc _ _ _ (by simp)]; exact heap_alloc_new _ _
  · simpa using heap_alloc_new (w.alloc (.cells (tCells (.pointer none)) 46)) (.cells (madeCells wcells (n * 8)) 58)
  · intro i hi
    have : i < (madeCells wcells (n * 8)).size := by rw [size_madeCells]; exact hi
    simp [this]
theorem l1_step {w wr : World} {n k : Nat} {lo hi : Nat → Int} (h : L1 w wr n lo hi k) (hk : k < n) :
    L1 w ((wr.setCell ⟨w.heap.size + 1, k * 8 + 1, none⟩ (.int .i64 (lo k))).setCell ⟨w.heap.size + 1, k * 8 + 2, none⟩ (.int .i64 (hi k))) n lo hi (k + 1) := by
  obtain ⟨f, hf, hv⟩ := h.row
  refine ⟨(h.below.setCell (by simp) _).setCell (by simp) _, ?_, ?_, _, (hf.set (k * 8 + 1) _).set (k * 8 + 2) _, ?_⟩
  · simpa [World.setCell] using h.size
  · rw [Below.heap_setCell _ _ _ _ (by simp), Below.heap_setCell _ _ _ _ (by simp)]; exact h.t
  · intro i hi
    by_cases e : i = k
    · subst e
      simp
    · have := hv i (by omega)
      refine ⟨?_, ?_⟩
      · rw [if_neg (by omega), if_neg (by omega)]; exact this.1
      · rw [if_neg (by omega), if_neg (by omega)]; exact this.2

theorem L1.two {w wr : World} {n k : Nat} {lo hi : Nat → Int} (h : L1 w wr n lo hi k) : wr.cell? ⟨w.heap.size, 2, none⟩ = some (.pointer none) ∧ wr.frozen? ⟨w.heap.size, 2, none⟩ = false := by
  have ht := h.t
  exact ⟨by simp [World.cell?, ht, tCells], by simp [World.frozen?, ht]⟩
/-- Behind the set-up: the trial, the walk's trial, the walkers. -/
structure L2 (w wr : World) (n : Nat) (lo hi : Nat → Int) (st : Int) : Prop where
  below : Below w.heap.size w wr
  size : wr.heap.size = w.heap.size + 1 + 1 + 1
  t2 : wr.cell? ⟨w.heap.size, 2, none⟩ = some (.pointer (some ⟨w.heap.size + 1 + 1, 0, none⟩))
  c4 : wr.cell? ⟨w.heap.size + 1 + 1, 4, none⟩ = some (.int .i64 0)
  c5 : wr.cell? ⟨w.heap.size + 1 + 1, 5, none⟩ = some (.int .i64 st)
  c6 : wr.cell? ⟨w.heap.size + 1 + 1, 6, none⟩ = some (.slice (some ⟨w.heap.size + 1, 0, none⟩) n n)
  rows : ∀ i, i < n → wr.cell? ⟨w.heap.size + 1, i * 8 + 1, none⟩ = some (.int .i64 (lo i)) ∧ wr.cell? ⟨w.heap.size + 1, i * 8 + 2, none⟩ = some (.int .i64 (hi i))
theorem l2_start {w wr : World} {n k : Nat} {lo hi : Nat → Int} (h : L1 w wr n lo hi k) (hk : n ≤ k) (st : Int) :
    L2 w ((wr.setCell ⟨w.heap.size, 2, none⟩ (.pointer (some ⟨w.heap.size + 1 + 1, 0, none⟩))).alloc (.cells #[.int .u8 0, .int .i64 0, .int .i64 0, .int .i64 0, .int .i64 0, .int .i64 st, .slice (some ⟨w.heap.size + 1, 0, none⟩) n n, .slice none 0 0] 67)) n lo hi st := by
  have hs := h.size
  obtain ⟨f, hf, hv⟩ := h.row
  have c2 := h.two.1
  have hs' : (wr.setCell ⟨w.heap.size, 2, none⟩ (.pointer (some ⟨w.heap.size + 1 + 1, 0, none⟩))).heap.size = w.heap.size + 1 + 1 := by simp [World.setCell, hs]
  have hn := heap_alloc_new (wr.setCell ⟨w.heap.size, 2, none⟩ (.pointer (some ⟨w.heap.size + 1 + 1, 0, none⟩))) (.cells #[.int .u8 0, .int .i64 0, .int .i64 0, .int .i64 0, .int .i64 0, .int .i64 st, .slice (some ⟨w.heap.size + 1, 0, none⟩) n n, .slice none 0 0] 67)
  rw [hs'] at hn
  have hr := (hf.setOther (a := ⟨w.heap.size, 2, none⟩) (by simp) (.pointer (some ⟨w.heap.size + 1 + 1, 0, none⟩))).alloc (.cells #[.int .u8 0, .int .i64 0, .int .i64 0, .int .i64 0, .int .i64 0, .int .i64 st, .slice (some ⟨w.heap.size + 1, 0, none⟩) n n, .slice none 0 0] 67)
  refine ⟨(h.below.setCell (Nat.le_refl _) _).alloc (by rw [hs']; omega) _, ?_, ?_, by simp [World.cell?, hn], by simp [World.cell?, hn], by simp [World.cell?, hn], ?_⟩
  · simp [hs']
  · rw [World.cell?_alloc_lt _ _ _ (by show w.heap.size < _; rw [hs']; omega)]
    exact World.cell?_setCell_same _ _ _ c2
  · intro i hi
    have v := hv i (by omega)
    exact ⟨by rw [hr.cell (by omega), v.1], by rw [hr.cell (by omega), v.2]⟩

/-- Behind ranges. -/
structure L3 (w wr : World) (n : Nat) (lo hi : Nat → Int) (st : Int) : Prop where
  below : Below w.heap.size w wr
  t2 : wr.cell? ⟨w.heap.size, 2, none⟩ = some (.pointer (some ⟨w.heap.size + 1 + 1, 0, none⟩))
  c4 : wr.cell? ⟨w.heap.size + 1 + 1, 4, none⟩ = some (.int .i64 0)
  c5 : wr.cell? ⟨w.heap.size + 1 + 1, 5, none⟩ = some (.int .i64 st)
  c6 : wr.cell? ⟨w.heap.size + 1 + 1, 6, none⟩ = some (.slice (some ⟨w.heap.size + 1, 0, none⟩) n n)
  rows : ∀ i, i < n → wr.cell? ⟨w.heap.size + 1, i * 8 + 1, none⟩ = some (.int .i64 (lo i)) ∧ wr.cell? ⟨w.heap.size + 1, i * 8 + 2, none⟩ = some (.int .i64 (hi i))
  s0 : wr.cell? ⟨w.heap.size + 1 + 1 + 1, 0, none⟩ = some (.string ⟨#[99, 111, 117, 110, 116, 101, 114]⟩)
  s1 : wr.cell? ⟨w.heap.size + 1 + 1 + 1, 1, none⟩ = some (.int .i64 (los lo st n))
  s2 : wr.cell? ⟨w.heap.size + 1 + 1 + 1, 2, none⟩ = some (.int .i64 (his hi st n))
theorem ranges_l2 {w wr : World} {n : Nat} {lo hi : Nat → Int} {st : Int} (hn : n ≤ 1048576) (h : L2 w wr n lo hi st) :
    Calls Yba.prog 6 #[.pointer (some ⟨w.heap.size, 0, none⟩)] wr fun e w' => e = .returned (.slice (some ⟨w.heap.size + 1 + 1 + 1, 0, none⟩) 1 1) ∧ L3 w w' n lo hi st := by
  have hs := h.size
  have R := ranges_any w.heap.size (w.heap.size + 1 + 1) (w.heap.size + 1) n st lo hi wr hn h.t2 h.c5 h.c6 h.rows
  rw [hs] at R
  refine R.mono ?_
  rintro e w' ⟨rfl, m, rfl⟩
  have hb : Below wr.heap.size wr ((wr.alloc (.cells (spanCells (los lo st n) (his hi st n)) 69)).drewN m) := by
    have := (Below.refl _ wr).alloc (Nat.le_refl _) (.cells (spanCells (los lo st n) (his hi st n)) 69)
    exact ⟨this.os, this.tape, this.output, this.size, this.block⟩
  have hc : ∀ b o, b < w.heap.size + 1 + 1 + 1 → ((wr.alloc (.cells (spanCells (los lo st n) (his hi st n)) 69)).drewN m).cell? ⟨b, o, none⟩ = wr.cell? ⟨b, o, none⟩ := fun b o hbo => hb.cell (p := ⟨b, o, none⟩) (by rw [hs]; exact hbo)
  have hnw : ((wr.alloc (.cells (spanCells (los lo st n) (his hi st n)) 69)).drewN m).heap[w.heap.size + 1 + 1 + 1]? = some (.cells (spanCells (los lo st n) (his hi st n)) 69 (0, 0)) := by
    have := heap_alloc_new wr (.cells (spanCells (los lo st n) (his hi st n)) 69)
    rw [hs] at this
    exact this
  refine ⟨rfl, h.below.trans (hb.mono (by omega)), (hc _ _ (by omega)).trans h.t2, (hc _ _ (by omega)).trans h.c4, (hc _ _ (by omega)).trans h.c5, (hc _ _ (by omega)).trans h.c6, fun i hi => ⟨(hc _ _ (by omega)).trans (h.rows i hi).1, (hc _ _ (by omega)).trans (h.rows i hi).2⟩, ?_, ?_, ?_⟩
  all_goals exact (cell_of_row _ _ _ _ _ _ hnw).trans (by simp [spanCells])

theorem below_dr {B : Nat} {w w' : World} (h : Below B w w') (n : Nat) : Below B w (w'.drewN n) := ⟨h.os, h.tape, h.output, h.size, h.block⟩
/-- A pointer is itself. -/
theorem neq28 (a : Addr) (w : World) : (binOp .neq 28 (.pointer (some a)) (.pointer (some a))).run Yba.prog w = .ok (.bool false) w := by
  obtain ⟨j, hj⟩ : ∃ j, Yba.prog.info? 67 = some j := Option.isSome_iff_exists.1 (by kernel_rfl)
  exact Lib.run_neq_ptr_same w a Yba.underlying28 hj

set_option maxHeartbeats 1000000 in
set_option maxRecDepth 100000 in
theorem lawA (a : Option Addr) (n c : Nat) (st : Int) (lo hi : Nat → Int) (w : World) (hn : n ≤ 1048576) (hU : UpsAt w a n lo hi) :
    Calls Yba.prog 3 #[.bool true, .int .i64 st, .slice a n c] w fun e w' => e = .returned (.bool true) ∧ Below w.heap.size w w' := by
  have hmk := make_walkers n hn
  have HU : Hid (UpsAt w a n lo hi) := hU
  clear hU
  go_enter Yba.func3, Yba.ntmps3
  go_wp2_with fail
  go_loopg [10] n (fun g i wr => ∃ k : Nat, k ≤ n ∧ n ≤ k + g ∧ i = .int .i64 k ∧ L1 w wr n lo hi k)
  case atStart => exact ⟨0, by omega, by omega, rfl, l1_start w n lo hi⟩
  case round =>
    obtain ⟨k, hk, hg, rfl, hL⟩ := hrel
    by_cases hlt : k < n
    · have hki : (k : Int) < (n : Int) := by omega
      rcases HU.out with h0 | ⟨b, off, rfl, hb, hc⟩
      · omega
      obtain ⟨e1, e2⟩ := hc k hlt
      have g1 := (hL.below.cell (p := ⟨b, off + k * 2, none⟩) hb).trans e1
      have g2 := (hL.below.cell (p := ⟨b, off + k * 2 + 1, none⟩) hb).trans e2
      obtain ⟨f, hf, _⟩ := hL.row
      have r1 := hf.cell (show k * 8 + 1 < n * 8 by omega)
      have r2 := hf.cell (show k * 8 + 2 < n * 8 by omega)
      have f1 := hf.frozen (k * 8 + 1)
      have f2 := hf.frozen (k * 8 + 2)
      have hbn : b ≠ w.heap.size + 1 := by omega
      have HL : Hid (L1 w wr n lo hi k) := hL
      clear hL hc hf e1 e2
      go_wp2_with fail
      go_roundg (gk - 1)
      case measure => omega
      case rel => exact ⟨k + 1, by omega, by omega, by go_num, l1_step HL.out hlt⟩
    · have HL : Hid (L1 w wr n lo hi k) := hL
      have hsz := hL.size
      clear hL
      obtain ⟨c2, f2⟩ := HL.out.two
      have HKN : Hid (n ≤ k) := by show n ≤ k; omega
      go_wp2_with fail
      go_loopg [12, 13, 14] n (fun g x y i wr => ∃ k : Nat, k ≤ n ∧ n ≤ k + g ∧ i = .int .i64 k ∧ x = .int .i64 (los lo st k) ∧ y = .int .i64 (his hi st k) ∧ L2 w wr n lo hi st)
      case atStart => exact ⟨0, by omega, by omega, rfl, rfl, rfl, l2_start HL.out HKN.out st⟩
      case round =>
        clear HL hsz c2 f2 hlt hk hg HKN
        obtain ⟨q, hq, hgq, rfl, rfl, rfl, hL2⟩ := hrel
        by_cases hql : q < n
        · have hqi : (q : Int) < (n : Int) := by omega
          rcases HU.out with h0 | ⟨b, off, rfl, hb, hc⟩
          · omega
          obtain ⟨e1, e2⟩ := hc q hql
          have g1 := (hL2.below.cell (p := ⟨b, off + q * 2, none⟩) hb).trans e1
          have g2 := (hL2.below.cell (p := ⟨b, off + q * 2 + 1, none⟩) hb).trans e2
          have HL2 : Hid (L2 w wr n lo hi st) := hL2
          have HLs : Hid (los lo st (q + 1) = mn (los lo st q) (lo q)) := rfl
          have HHs : Hid (his hi st (q + 1) = mx (his hi st q) (hi q)) := rfl
          clear hL2 hc e1 e2
          generalize los lo st q = A at *
          generalize his hi st q = B at *
          generalize lo q = x at *
          generalize hi q = y at *
          go_wp2_with fail
          all_goals
            go_roundg (gk - 1)
            case measure => omega
            case rel => exact ⟨q + 1, by omega, by omega, by go_num, by rw [HLs.out]; first | exact mn_l ‹_› | exact mn_r ‹_›, by rw [HHs.out]; first | exact mx_l ‹_› | exact mx_r ‹_›, HL2.out⟩
        · have HL2 : Hid (L2 w wr n lo hi st) := hL2
          have hsz := hL2.size
          have HQN : Hid (q = n) := by show q = n; omega
          clear hL2
          obtain rfl : n = q := HQN.out.symm
          have hq47 := fun (w : World) (a : Option Addr) (n c : Nat) => Lib.run_eql_slice_nil (P := Yba.prog) w 47 69 a n c 0 0 Yba.underlying47
          go_wp2_with fail
          refine (ranges_l2 hn HL2.out).mono ?_
          rintro e w3 ⟨rfl, hL3⟩
          have HL3 : Hid (L3 w w3 n lo hi st) := hL3
          have t2 := hL3.t2
          have c4 := hL3.c4
          have c5 := hL3.c5
          have c6 := hL3.c6
          have s0 := hL3.s0
          have s1 := hL3.s1
          have s2 := hL3.s2
          clear hL3 HL2 hsz HQN
          have hn28 := neq28
          go_wp2_with (go_at_call 7; refine (load_any _ _ 0 _ c4).mono ?_; rintro e w' ⟨rfl, rfl⟩)
          go_loopg [16] n (fun g i wr => ∃ k m : Nat, k ≤ n ∧ n ≤ k + g ∧ i = .int .i64 k ∧ wr = w3.drewN m)
          case atStart => exact ⟨0, 0, by omega, by omega, rfl, rfl⟩
          case round =>
            obtain ⟨q, m, hq, hgq, rfl, rfl⟩ := hrel
            clear t2 c4 c5 s0 s1 s2 hn28 hq47
            by_cases hql : q < n
            · have hqi : (q : Int) < (n : Int) := by omega
              rcases HU.out with h0 | ⟨b, off, rfl, hb, hc⟩
              · omega
              obtain ⟨e1, e2⟩ := hc q hql
              have g1 := (HL3.out.below.cell (p := ⟨b, off + q * 2, none⟩) hb).trans e1
              have g2 := (HL3.out.below.cell (p := ⟨b, off + q * 2 + 1, none⟩) hb).trans e2
              obtain ⟨r1, r2⟩ := HL3.out.rows q hql
              clear hc e1 e2
              go_wp2_with fail
              go_quiet (fail)
              go_wp2_with fail
              go_roundg (gk - 1)
              case measure => omega
              case rel => exact ⟨q + 1, _, by omega, by omega, by go_num, rfl⟩
            · go_wp2_with fail
              go_ret
              exact ⟨rfl, below_dr HL3.out.below m⟩
end Go.Proofs.Ybulkexdw

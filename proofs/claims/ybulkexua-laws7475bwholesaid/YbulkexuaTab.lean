import Derived.Test.YbulkexuaEq
import Derived.Below
import Derived.Deep.DeepCutAuto
set_option linter.unusedVariables false
namespace Go.Proofs.Ybulkexua
open Go.RowKit

theorem Yba.info22' : (Yba.prog.info? 22).map (fun i => (i.zero, i.size, i.bytes)) = some (some (.slice none 0 0), 1, 24) := by kernel_rfl
theorem Yba.info26' : (Yba.prog.info? 26).map (fun i => (i.zero, i.size, i.bytes)) = some (some (.float .f64 0), 1, 8) := by kernel_rfl
theorem Yba.info3' : (Yba.prog.info? 3).map (fun i => (i.zero, i.size, i.bytes)) = some (some (.int .i64 0), 1, 8) := by kernel_rfl

theorem size_alloc' (w : World) (o : Obj) : (w.alloc o).heap.size = w.heap.size + 1 := Array.size_push _
def rowVal (x wd m k : Nat) : Value := if k < m then .slice (some ⟨x + 2 * k, 0, none⟩) wd wd else .slice none 0 0
/-- m rows of the two tables are made. -/
structure Tb (N n wd : Nat) (w wr : World) (m : Nat) (C D : Nat → Nat → Nat) : Prop where
  below : Below N w wr
  size : wr.heap.size = N + 2 + 2 * m
  t : wr.rowIs N 22 n (rowVal (N + 2) wd m)
  o : wr.rowIs (N + 1) 22 n (rowVal (N + 3) wd m)
  rt : ∀ k, k < m → wr.rowIs (N + 2 + 2 * k) 26 wd (fun j => .float .f64 (C k j))
  ro : ∀ k, k < m → wr.rowIs (N + 3 + 2 * k) 26 wd (fun j => .float .f64 (D k j))
theorem Tb.start {N n wd : Nat} {w : World} {C D : Nat → Nat → Nat} (hN : w.heap.size = N) :
    Tb N n wd w ((w.alloc (.cells (madeCells #[.slice none 0 0] n) 22)).alloc (.cells (madeCells #[.slice none 0 0] n) 22)) 0 C D := by
  have h1 := World.rowIs_made w (.slice none 0 0) n 22
  have h2 := World.rowIs_made (w.alloc (.cells (madeCells #[.slice none 0 0] n) 22)) (.slice none 0 0) n 22
  have e : (w.alloc (.cells (madeCells #[.slice none 0 0] n) 22)).heap.size = N + 1 := by rw [size_alloc', hN]
  rw [hN] at h1
  rw [e] at h2
  refine ⟨((Below.refl N w).alloc (by omega) _).alloc (by omega) _, by rw [size_alloc', e], (h1.alloc _).congr fun i hi => ?_, h2.congr fun i hi => ?_, fun k hk => by omega, fun k hk => by omega⟩
  · unfold rowVal; rw [if_neg (by omega)]
  · unfold rowVal; rw [if_neg (by omega)]
def wipe (C : Nat → Nat → Nat) (m : Nat) : Nat → Nat → Nat := fun k j => if k = m then 0 else C k j
theorem Tb.push {N n wd : Nat} {w wr : World} {m : Nat} {C D : Nat → Nat → Nat} (h : Tb N n wd w wr m C D) (hm : m < n) :
    Tb N n wd w ((((wr.alloc (.cells (madeCells #[.float .f64 0] wd) 26)).setCell ⟨N, m, none⟩ (.slice (some ⟨N + 2 + 2 * m, 0, none⟩) wd wd)).alloc (.cells (madeCells #[.float .f64 0] wd) 26)).setCell ⟨N + 1, m, none⟩ (.slice (some ⟨N + 2 + 2 * m + 1, 0, none⟩) wd wd)) (m + 1) (wipe C m) (wipe D m) := by
  have hs := h.size
  have h1 := World.rowIs_made wr (.float .f64 0) wd 26
  rw [hs] at h1
  generalize hA : wr.alloc (.cells (madeCells #[.float .f64 0] wd) 26) = A at *
  have eA : A.heap.size = N + 2 + 2 * m + 1 := by subst hA; rw [size_alloc', hs]
  have kA : ∀ k, k < N + 2 + 2 * m → A.heap[k]? = wr.heap[k]? := fun k hk => by subst hA; exact Below.heap_alloc _ _ _ (by omega)
  have bA : Below N wr A := by subst hA; exact (Below.refl N wr).alloc (by omega) _
  generalize hB : A.setCell ⟨N, m, none⟩ (.slice (some ⟨N + 2 + 2 * m, 0, none⟩) wd wd) = B at *
  have eB : B.heap.size = N + 2 + 2 * m + 1 := by subst hB; simp [World.setCell, eA]
  have kB : ∀ k, k ≠ N → B.heap[k]? = A.heap[k]? := fun k hk => by subst hB; exact Below.heap_setCell _ _ _ _ hk
  have bB : Below N A B := by subst hB; exact (Below.refl N A).setCell (Nat.le_refl _) _
  have tB : B.rowIs N 22 n (rowVal (N + 2) wd (m + 1)) := by
    subst hB
    refine (((h.t.of_block (kA N (by omega))).set m _)).congr fun i hi => ?_
    unfold rowVal
    by_cases e : i = m
    · subst e; rw [if_pos rfl, if_pos (by omega)]
    · rw [if_neg e]
      by_cases e' : i < m
      · rw [if_pos e', if_pos (by omega)]
      · rw [if_neg e', if_neg (by omega)]
  have h2 := World.rowIs_made B (.float .f64 0) wd 26
  rw [eB] at h2
  generalize hCw : B.alloc (.cells (madeCells #[.float .f64 0] wd) 26) = E at *
  have eC : E.heap.size = N + 2 + 2 * m + 1 + 1 := by subst hCw; rw [size_alloc', eB]
  have kC : ∀ k, k < N + 2 + 2 * m + 1 → E.heap[k]? = B.heap[k]? := fun k hk => by subst hCw; exact Below.heap_alloc _ _ _ (by omega)
  have bC : Below N B E := by subst hCw; exact (Below.refl N B).alloc (by omega) _
  generalize hF : E.setCell ⟨N + 1, m, none⟩ (.slice (some ⟨N + 2 + 2 * m + 1, 0, none⟩) wd wd) = F at *
  have eF : F.heap.size = N + 2 + 2 * (m + 1) := by subst hF; simp [World.setCell, eC]; omega
  have kF : ∀ k, k ≠ N + 1 → F.heap[k]? = E.heap[k]? := fun k hk => by subst hF; exact Below.heap_setCell _ _ _ _ hk
  have bF : Below N E F := by subst hF; exact (Below.refl N E).setCell (by show N ≤ N + 1; omega) _
  refine ⟨h.below.trans (bA.trans (bB.trans (bC.trans bF))), eF, tB.of_block ((kF N (by omega)).trans (kC N (by omega))), ?_, fun k hk => ?_, fun k hk => ?_⟩
  · subst hF
    refine ((h.o.of_block ((kC _ (by omega)).trans ((kB _ (by omega)).trans (kA _ (by omega))))).set m _).congr fun i hi => ?_
    unfold rowVal
    by_cases e : i = m
    · subst e; rw [if_pos rfl, if_pos (by omega), show N + 2 + 2 * i + 1 = N + 3 + 2 * i by omega]
    · rw [if_neg e]
      by_cases e' : i < m
      · rw [if_pos e', if_pos (by omega)]
      · rw [if_neg e', if_neg (by omega)]
  · by_cases e : k = m
    · subst e
      refine (h1.of_block ((kF _ (by omega)).trans ((kC _ (by omega)).trans (kB _ (by omega))))).congr fun i hi => ?_
      unfold wipe; rw [if_pos rfl]
    · refine ((h.rt k (by omega)).of_block ((kF _ (by omega)).trans ((kC _ (by omega)).trans ((kB _ (by omega)).trans (kA _ (by omega)))))).congr fun i hi => ?_
      unfold wipe; rw [if_neg e]
  · by_cases e : k = m
    · subst e
      have h2' : E.rowIs (N + 3 + 2 * k) 26 wd fun _ => .float .f64 0 := by rw [show N + 3 + 2 * k = N + 2 + 2 * k + 1 by omega]; exact h2
      refine (h2'.of_block (kF _ (by omega))).congr fun i hi => ?_
      unfold wipe; rw [if_pos rfl]
    · refine ((h.ro k (by omega)).of_block ((kF _ (by omega)).trans ((kC _ (by omega)).trans ((kB _ (by omega)).trans (kA _ (by omega)))))).congr fun i hi => ?_
      unfold wipe; rw [if_neg e]
theorem Tb.set {N n wd : Nat} {w wr : World} {m : Nat} {C D : Nat → Nat → Nat} (h : Tb N n wd w wr m C D) {i j v : Nat} (hi : i < m) :
    Tb N n wd w ((wr.setCell ⟨N + 2 + 2 * i, j, none⟩ (.float .f64 v)).setCell ⟨N + 3 + 2 * i, j, none⟩ (.float .f64 v)) m (upd C i j v) (upd D i j v) := by
  have k1 : ∀ k, k ≠ N + 2 + 2 * i → k ≠ N + 3 + 2 * i → ((wr.setCell ⟨N + 2 + 2 * i, j, none⟩ (.float .f64 v)).setCell ⟨N + 3 + 2 * i, j, none⟩ (.float .f64 v)).heap[k]? = wr.heap[k]? := fun k h1 h2 => (Below.heap_setCell _ _ _ _ h2).trans (Below.heap_setCell _ _ _ _ h1)
  refine ⟨(h.below.setCell (by show N ≤ N + 2 + 2 * i; omega) _).setCell (by show N ≤ N + 3 + 2 * i; omega) _, by simpa [World.setCell] using h.size, h.t.of_block (k1 _ (by omega) (by omega)), h.o.of_block (k1 _ (by omega) (by omega)), fun k hk => ?_, fun k hk => ?_⟩
  · by_cases e : k = i
    · subst e
      refine (((h.rt k hk).set j (.float .f64 v)).setOther (by show N + 2 + 2 * k ≠ N + 3 + 2 * k; omega) _).congr fun j' hj' => ?_
      unfold upd
      by_cases e : j' = j
      · subst e; simp
      · simp [e]
    · refine ((h.rt k hk).of_block (k1 _ (by omega) (by omega))).congr fun j' hj' => ?_
      rw [upd_row C e]
  · by_cases e : k = i
    · subst e
      refine (((h.ro k hk).setOther (a := ⟨N + 2 + 2 * k, j, none⟩) (by show N + 3 + 2 * k ≠ N + 2 + 2 * k; omega) (.float .f64 v)).set j (.float .f64 v)).congr fun j' hj' => ?_
      unfold upd
      by_cases e : j' = j
      · subst e; simp
      · simp [e]
    · refine ((h.ro k hk).of_block (k1 _ (by omega) (by omega))).congr fun j' hj' => ?_
      rw [upd_row D e]
theorem Tb.congr {N n wd : Nat} {w wr : World} {m : Nat} {C D C' D' : Nat → Nat → Nat} (h : Tb N n wd w wr m C D) (e1 : ∀ k j, k < m → j < wd → C k j = C' k j) (e2 : ∀ k j, k < m → j < wd → D k j = D' k j) : Tb N n wd w wr m C' D' :=
  ⟨h.below, h.size, h.t, h.o, fun k hk => (h.rt k hk).congr fun j hj => by rw [e1 k j hk hj], fun k hk => (h.ro k hk).congr fun j hj => by rw [e2 k j hk hj]⟩

/-- Row i is filled up to j. -/
structure Fill (N n wd : Nat) (w wr : World) (V : Nat → Nat → Nat) (i j : Nat) (C : Nat → Nat → Nat) : Prop where
  tb : Tb N n wd w wr (i + 1) C C
  old : ∀ k, k < i → C k = V k
  new : ∀ q, q < j → C i q = V i q
theorem Fill.begin {N n wd : Nat} {w wr : World} {V C : Nat → Nat → Nat} {i : Nat} (h : Tb N n wd w wr i V V) (hi : i < n) :
    Fill N n wd w ((((wr.alloc (.cells (madeCells #[.float .f64 0] wd) 26)).setCell ⟨N, i, none⟩ (.slice (some ⟨N + 2 + 2 * i, 0, none⟩) wd wd)).alloc (.cells (madeCells #[.float .f64 0] wd) 26)).setCell ⟨N + 1, i, none⟩ (.slice (some ⟨N + 2 + 2 * i + 1, 0, none⟩) wd wd)) V i 0 (wipe V i) :=
  ⟨h.push hi, fun k hk => by funext q; unfold wipe; rw [if_neg (by omega)], fun q hq => by omega⟩
theorem Fill.step {N n wd : Nat} {w wr : World} {V C : Nat → Nat → Nat} {i j v : Nat} (h : Fill N n wd w wr V i j C) (hv : v = V i j) :
    Fill N n wd w ((wr.setCell ⟨N + 2 + 2 * i, j, none⟩ (.float .f64 v)).setCell ⟨N + 3 + 2 * i, j, none⟩ (.float .f64 v)) V i (j + 1) (upd C i j v) := by
  refine ⟨h.tb.set (by omega), fun k hk => by rw [upd_row C (by omega)]; exact h.old k hk, fun q hq => ?_⟩
  by_cases e : q = j
  · subst e; rw [upd_at]; exact hv
  · rw [upd_col C e]; exact h.new q (by omega)
theorem Fill.end {N n wd : Nat} {w wr : World} {V C : Nat → Nat → Nat} {i j : Nat} (h : Fill N n wd w wr V i j C) (hj : wd ≤ j) : Tb N n wd w wr (i + 1) V V := by
  have e : ∀ k q, k < i + 1 → q < wd → C k q = V k q := fun k q hk hq => by
    by_cases e : k = i
    · subst e; exact h.new q (by omega)
    · rw [h.old k (by omega)]
  exact h.tb.congr e e
end Go.Proofs.Ybulkexua

import Derived.Test.YbulkexuaFloat
import Derived.Deep.QuietTactic
import Derived.BigQuiet
import Derived.BigRegion
import Derived.RegionTactic
import Derived.Deep.RegionWith
import Derived.Deep.LoopGhost
import Derived.Deep.OwnRows
import Derived.Deep.DeepFit
set_option linter.unusedVariables false
namespace Go.Proofs.Ybulkexua
open Go.RowKit

/-- The tableau's rows, block T i each, hold C; all other blocks are as in w. -/
structure Mem (T : Nat → Nat) (n wd : Nat) (w wr : World) (C : Nat → Nat → Nat) : Prop where
  os : wr.os = w.os
  tape : wr.tape = w.tape
  output : wr.output = w.output
  size : wr.heap.size = w.heap.size
  rows : ∀ i, i < n → wr.rowIs (T i) 26 wd (fun j => .float .f64 (C i j))
  keep : ∀ k, (∀ i, i < n → k ≠ T i) → wr.heap[k]? = w.heap[k]?
def upd (C : Nat → Nat → Nat) (i j v : Nat) : Nat → Nat → Nat := fun i' j' => if i' = i ∧ j' = j then v else C i' j'
theorem upd_at (C : Nat → Nat → Nat) (i j v : Nat) : upd C i j v i j = v := by unfold upd; rw [if_pos ⟨rfl, rfl⟩]
theorem upd_row (C : Nat → Nat → Nat) {i j v i' : Nat} (h : i' ≠ i) : upd C i j v i' = C i' := by funext j'; unfold upd; rw [if_neg (fun e => h e.1)]
theorem upd_col (C : Nat → Nat → Nat) {i j v i' j' : Nat} (h : j' ≠ j) : upd C i j v i' j' = C i' j' := by unfold upd; rw [if_neg (fun e => h e.2)]
theorem Mem.draws {T : Nat → Nat} {n wd : Nat} {w wr : World} {C : Nat → Nat → Nat} (h : Mem T n wd w wr C) (m : Nat) : Mem T n wd w (wr.drewN m) C := ⟨h.os, h.tape, h.output, h.size, h.rows, h.keep⟩
theorem Mem.set {T : Nat → Nat} {n wd : Nat} {w wr : World} {C : Nat → Nat → Nat} (hT : ∀ i i', i < n → i' < n → T i = T i' → i = i') (h : Mem T n wd w wr C) {i : Nat} (hi : i < n) (j v : Nat) :
    Mem T n wd w (wr.setCell ⟨T i, j, none⟩ (.float .f64 v)) (upd C i j v) := by
  refine ⟨h.os, h.tape, h.output, by simpa [World.setCell] using h.size, ?_, ?_⟩
  · intro i' hi'
    by_cases e : i' = i
    · subst e
      refine ((h.rows i' hi').set j (.float .f64 v)).congr fun j' hj' => ?_
      unfold upd
      by_cases e : j' = j
      · subst e; simp
      · simp [e]
    · refine ((h.rows i' hi').setOther (fun e' => e (hT i' i hi' hi e')) (.float .f64 v)).congr fun j' hj' => ?_
      rw [upd_row C e]
  · intro k hk
    rw [Below.heap_setCell _ _ _ _ (hk i hi)]
    exact h.keep k hk

/-- Row i behind the pivot, f not nought. -/
def Red (V C : Nat → Nat → Nat) (o c i j : Nat) : Prop := ∃ m, Res .mul (V i c) (C o j) m ∧ Res .sub (V i j) m (C i j)
/-- x == 0 -/
def isZ (x : Nat) : Bool := (FloatKind.f64.format.order x 0 == some Ordering.eq)
def RowOk (V C : Nat → Nat → Nat) (wd o c i : Nat) : Prop := (isZ (V i c) = true ∧ C i = V i) ∨ (isZ (V i c) = false ∧ ∀ j, j < wd → Red V C o c i j)

structure P1 (V C : Nat → Nat → Nat) (o c : Nat) (j : Nat) : Prop where
  done : ∀ j', j' < j → Res .quo (V o j') (V o c) (C o j')
  todo : ∀ j', j ≤ j' → C o j' = V o j'
  other : ∀ i, i ≠ o → C i = V i
structure P2 (V C : Nat → Nat → Nat) (wd o c : Nat) (k : Nat) : Prop where
  row : ∀ j', j' < wd → Res .quo (V o j') (V o c) (C o j')
  done : ∀ i, i < k → i ≠ o → RowOk V C wd o c i
  todo : ∀ i, k ≤ i → i ≠ o → C i = V i
structure P3 (V C : Nat → Nat → Nat) (wd o c : Nat) (k j : Nat) : Prop where
  row : ∀ j', j' < wd → Res .quo (V o j') (V o c) (C o j')
  done : ∀ i, i < k → i ≠ o → RowOk V C wd o c i
  todo : ∀ i, k < i → i ≠ o → C i = V i
  red : ∀ j', j' < j → Red V C o c k j'
  rest : ∀ j', j ≤ j' → C k j' = V k j'
  hz : isZ (V k c) = false
  ne : k ≠ o

theorem P1.step {V C : Nat → Nat → Nat} {o c j r : Nat} (h : P1 V C o c j) (hr : Res .quo (V o j) (V o c) r) : P1 V (upd C o j r) o c (j + 1) := by
  refine ⟨fun j' hj' => ?_, fun j' hj' => ?_, fun i hi => ?_⟩
  · by_cases e : j' = j
    · subst e; rw [upd_at]; exact hr
    · rw [upd_col C e]; exact h.done j' (by omega)
  · rw [upd_col C (by omega)]; exact h.todo j' (by omega)
  · rw [upd_row C hi]; exact h.other i hi
theorem P1.end {V C : Nat → Nat → Nat} {wd o c j : Nat} (h : P1 V C o c j) (hj : wd ≤ j) : P2 V C wd o c 0 :=
  ⟨fun j' h' => h.done j' (by omega), fun i h' => by omega, fun i _ h' => h.other i h'⟩
theorem P2.same {V C : Nat → Nat → Nat} {wd o c : Nat} (h : P2 V C wd o c o) : P2 V C wd o c (o + 1) :=
  ⟨h.row, fun i h1 h2 => h.done i (by omega) h2, fun i h1 h2 => h.todo i (by omega) h2⟩
theorem P2.zero {V C : Nat → Nat → Nat} {wd o c k : Nat} (h : P2 V C wd o c k) (hk : k ≠ o) (hz : isZ (V k c) = true) : P2 V C wd o c (k + 1) := by
  refine ⟨h.row, fun i h1 h2 => ?_, fun i h1 h2 => h.todo i (by omega) h2⟩
  by_cases e : i = k
  · subst e; exact .inl ⟨hz, h.todo i (Nat.le_refl _) hk⟩
  · exact h.done i (by omega) h2
theorem P2.three {V C : Nat → Nat → Nat} {wd o c k : Nat} (h : P2 V C wd o c k) (hk : k ≠ o) (hz : isZ (V k c) = false) : P3 V C wd o c k 0 :=
  ⟨h.row, h.done, fun i h1 h2 => h.todo i (by omega) h2, fun j' h' => by omega, fun j' _ => by rw [h.todo k (Nat.le_refl _) hk], hz, hk⟩
theorem rowOk_upd {V C : Nat → Nat → Nat} {wd o c i k j r : Nat} (h : RowOk V C wd o c i) (hi : i ≠ k) (ho : o ≠ k) : RowOk V (upd C k j r) wd o c i := by
  rcases h with ⟨h1, h2⟩ | ⟨h1, h2⟩
  · exact .inl ⟨h1, by rw [upd_row C hi]; exact h2⟩
  · refine .inr ⟨h1, fun j' hj' => ?_⟩
    obtain ⟨m, a, b⟩ := h2 j' hj'
    exact ⟨m, by rw [upd_row C ho]; exact a, by rw [upd_row C hi]; exact b⟩
theorem P3.step {V C : Nat → Nat → Nat} {wd o c k j m r : Nat} (h : P3 V C wd o c k j) (hm : Res .mul (V k c) (C o j) m) (hr : Res .sub (V k j) m r) : P3 V (upd C k j r) wd o c k (j + 1) := by
  have hok : o ≠ k := fun e => h.ne e.symm
  refine ⟨fun j' h' => ?_, fun i h1 h2 => rowOk_upd (h.done i h1 h2) (by omega) hok, fun i h1 h2 => ?_, fun j' h' => ?_, fun j' h' => ?_, h.hz, h.ne⟩
  · rw [upd_row C hok]; exact h.row j' h'
  · rw [upd_row C (by omega)]; exact h.todo i h1 h2
  · by_cases e : j' = j
    · subst e
      exact ⟨m, by rw [upd_row C hok]; exact hm, by rw [upd_at]; exact hr⟩
    · obtain ⟨m', a, b⟩ := h.red j' (by omega)
      exact ⟨m', by rw [upd_row C hok]; exact a, by rw [upd_col C e]; exact b⟩
  · rw [upd_col C (by omega)]; exact h.rest j' (by omega)
theorem P3.end {V C : Nat → Nat → Nat} {wd o c k j : Nat} (h : P3 V C wd o c k j) (hj : wd ≤ j) : P2 V C wd o c (k + 1) := by
  refine ⟨h.row, fun i h1 h2 => ?_, fun i h1 h2 => h.todo i (by omega) h2⟩
  by_cases e : i = k
  · subst e; exact .inr ⟨h.hz, fun j' hj' => h.red j' (by omega)⟩
  · exact h.done i (by omega) h2
end Go.Proofs.Ybulkexua

import Derived.Test.YbulkexuaTab
set_option linter.unusedVariables false
namespace Go.Proofs.Ybulkexua
open Go.RowKit

structure Core (N n wd : Nat) (w wr : World) (C D : Nat → Nat → Nat) : Prop where
  below : Below N w wr
  t : ∀ k, k < n → wr.cell? ⟨N, k, none⟩ = some (.slice (some ⟨N + 2 + 2 * k, 0, none⟩) wd wd)
  o : ∀ k, k < n → wr.cell? ⟨N + 1, k, none⟩ = some (.slice (some ⟨N + 3 + 2 * k, 0, none⟩) wd wd)
  rt : ∀ k, k < n → wr.rowIs (N + 2 + 2 * k) 26 wd (fun j => .float .f64 (C k j))
  ro : ∀ k, k < n → wr.rowIs (N + 3 + 2 * k) 26 wd (fun j => .float .f64 (D k j))
theorem Core.of_tb {N n wd : Nat} {w wr : World} {C D : Nat → Nat → Nat} (h : Tb N n wd w wr n C D) : Core N n wd w wr C D := by
  refine ⟨h.below, fun k hk => ?_, fun k hk => ?_, h.rt, h.ro⟩
  · have := h.t.cell hk
    unfold rowVal at this
    rwa [if_pos hk] at this
  · have := h.o.cell hk
    unfold rowVal at this
    rwa [if_pos hk] at this
theorem Core.keep {N n wd : Nat} {w wr wr' : World} {C D : Nat → Nat → Nat} (h : Core N n wd w wr C D) (hb : Below N w wr') (hk : ∀ k, k < N + 2 + 2 * n → wr'.heap[k]? = wr.heap[k]?) : Core N n wd w wr' C D :=
  ⟨hb, fun k h' => (World.cell?_of_block (w := wr) (hk N (by omega))).trans (h.t k h'), fun k h' => (World.cell?_of_block (w := wr) (hk (N + 1) (by omega))).trans (h.o k h'),
   fun k h' => (h.rt k h').of_block (hk _ (by omega)), fun k h' => (h.ro k h').of_block (hk _ (by omega))⟩
theorem Core.alloc {N n wd : Nat} {w wr : World} {C D : Nat → Nat → Nat} (h : Core N n wd w wr C D) (hs : N + 2 + 2 * n ≤ wr.heap.size) (v : Obj) : Core N n wd w (wr.alloc v) C D :=
  h.keep (h.below.alloc (by omega) v) fun k hk => Below.heap_alloc _ _ _ (by omega)
theorem Core.set {N n wd : Nat} {w wr : World} {C D : Nat → Nat → Nat} (h : Core N n wd w wr C D) {a : Addr} (ha : N + 2 + 2 * n ≤ a.block) (v : Value) : Core N n wd w (wr.setCell a v) C D :=
  h.keep (h.below.setCell (by omega) v) fun k hk => Below.heap_setCell _ _ _ _ (by omega)

/-- The basis copied up to q. -/
structure Bas (N n wd : Nat) (w wr : World) (V : Nat → Nat → Nat) (bv : Nat → Int) (q : Nat) : Prop where
  core : Core N n wd w wr V V
  size : wr.heap.size = N + 2 + 2 * n + 1
  b : wr.rowIs (N + 2 + 2 * n) 3 n (fun z => .int .i64 (if z < q then bv z else 0))
theorem Bas.start {N n wd : Nat} {w wr : World} {V : Nat → Nat → Nat} {bv : Nat → Int} (h : Tb N n wd w wr n V V) : Bas N n wd w (wr.alloc (.cells (madeCells #[.int .i64 0] n) 3)) V bv 0 := by
  have h1 := World.rowIs_made wr (.int .i64 0) n 3
  rw [h.size] at h1
  exact ⟨(Core.of_tb h).alloc (by rw [h.size]; exact Nat.le_refl _) _, by rw [size_alloc', h.size], h1.congr fun i hi => by rw [if_neg (by omega)]⟩
theorem Bas.step {N n wd : Nat} {w wr : World} {V : Nat → Nat → Nat} {bv : Nat → Int} {q : Nat} {z : Int} (h : Bas N n wd w wr V bv q) (hz : z = bv q) : Bas N n wd w (wr.setCell ⟨N + 2 + 2 * n, q, none⟩ (.int .i64 z)) V bv (q + 1) := by
  refine ⟨h.core.set (Nat.le_refl _) _, by simpa [World.setCell] using h.size, (h.b.set q _).congr fun i hi => ?_⟩
  by_cases e : i = q
  · subst e; rw [if_pos rfl, if_pos (by omega), hz]
  · rw [if_neg e]
    by_cases e' : i < q
    · rw [if_pos e', if_pos (by omega)]
    · rw [if_neg e', if_neg (by omega)]

def tOf (N : Nat) (i : Nat) : Nat := N + 2 + 2 * i
def sCells (N n : Nat) (rows : Int) : Array Value := #[.slice (some ⟨N, 0, none⟩) n n, .slice (some ⟨N + 2 + 2 * n, 0, none⟩) n n, .int .i64 rows, .slice (some ⟨N + 2 + 2 * n + 1, 0, none⟩) 1 1]
theorem cell_new' (w : World) (c : Array Value) (t : TypeId) (i : Nat) (b : Nat) (hb : w.heap.size = b) : (w.alloc (.cells c t)).cell? ⟨b, i, none⟩ = c[i]? := by
  subst hb
  have : (w.alloc (.cells c t)).heap[w.heap.size]? = some (.cells c t) := Array.getElem?_push_size
  simp only [World.cell?, this]
  rfl
theorem bas_tab {N n wd : Nat} {w wr : World} {V : Nat → Nat → Nat} {bv : Nat → Int} {q : Nat} (h : Bas N n wd w wr V bv q) (rows : Int) (A : Obj) :
    Tab (N + 2 + 2 * n + 1 + 1) N (N + 2 + 2 * n) n wd (tOf N) ((wr.alloc A).alloc (.cells (sCells N n rows) 29)) := by
  have h1 : Core N n wd w ((wr.alloc A).alloc (.cells (sCells N n rows) 29)) V V := (h.core.alloc (by rw [h.size]; omega) A).alloc (by rw [size_alloc', h.size]; omega) _
  have e : (wr.alloc A).heap.size = N + 2 + 2 * n + 1 + 1 := by rw [size_alloc', h.size]
  exact ⟨cell_new' _ _ _ _ _ e, cell_new' _ _ _ _ _ e, h1.t, ⟨_, (h.b.alloc _).alloc _⟩, fun i i' _ _ he => by unfold tOf at he; omega, fun i _ => by unfold tOf; omega, fun i _ => by unfold tOf; omega, fun i _ => by unfold tOf; omega⟩
theorem bas_mem {N n wd : Nat} {w wr : World} {V : Nat → Nat → Nat} {bv : Nat → Int} {q : Nat} (h : Bas N n wd w wr V bv q) (rows : Int) (A : Obj) :
    Mem (tOf N) n wd ((wr.alloc A).alloc (.cells (sCells N n rows) 29)) ((wr.alloc A).alloc (.cells (sCells N n rows) 29)) V :=
  ⟨rfl, rfl, rfl, rfl, fun i hi => ((h.core.rt i hi).alloc _).alloc _, fun _ _ => rfl⟩

/-- Behind the pivot. -/
structure Fin' (N n wd : Nat) (w wr : World) (V C : Nat → Nat → Nat) (bw : Nat → Int) (rows : Int) : Prop where
  below : Below N w wr
  t : ∀ k, k < n → wr.cell? ⟨N, k, none⟩ = some (.slice (some ⟨N + 2 + 2 * k, 0, none⟩) wd wd)
  o : ∀ k, k < n → wr.cell? ⟨N + 1, k, none⟩ = some (.slice (some ⟨N + 3 + 2 * k, 0, none⟩) wd wd)
  rt : ∀ k j, k < n → j < wd → wr.cell? ⟨N + 2 + 2 * k, j, none⟩ = some (.float .f64 (C k j))
  ro : ∀ k j, k < n → j < wd → wr.cell? ⟨N + 3 + 2 * k, j, none⟩ = some (.float .f64 (V k j))
  b : ∀ k, k < n → wr.cell? ⟨N + 2 + 2 * n, k, none⟩ = some (.int .i64 (bw k))
  s0 : wr.cell? ⟨N + 2 + 2 * n + 1 + 1, 0, none⟩ = some (.slice (some ⟨N, 0, none⟩) n n)
  s1 : wr.cell? ⟨N + 2 + 2 * n + 1 + 1, 1, none⟩ = some (.slice (some ⟨N + 2 + 2 * n, 0, none⟩) n n)
  s2 : wr.cell? ⟨N + 2 + 2 * n + 1 + 1, 2, none⟩ = some (.int .i64 rows)
  s3 : wr.cell? ⟨N + 2 + 2 * n + 1 + 1, 3, none⟩ = some (.slice (some ⟨N + 2 + 2 * n + 1, 0, none⟩) 1 1)
  ray : wr.cell? ⟨N + 2 + 2 * n + 1, 0, none⟩ = some (.float .f64 4612811918334230528)
theorem Fin'.make {N n wd : Nat} {w wr w1 : World} {V C : Nat → Nat → Nat} {bv : Nat → Int} {q : Nat} (h : Bas N n wd w wr V bv q) (hq : n ≤ q) (rows : Int)
    (hm : Mem (tOf N) n wd ((wr.alloc (.cells #[.float .f64 4612811918334230528] 26)).alloc (.cells (sCells N n rows) 29)) w1 C) (on : Nat) (hon : on < n) (z : Int) :
    Fin' N n wd w (w1.setCell ⟨N + 2 + 2 * n, on, none⟩ (.int .i64 z)) V C (fun k => if k = on then z else bv k) rows := by
  have e1 : (wr.alloc (.cells #[.float .f64 4612811918334230528] 26)).heap.size = N + 2 + 2 * n + 1 + 1 := by rw [size_alloc', h.size]
  have hc1 := (h.core.alloc (by rw [h.size]; omega) (.cells #[.float .f64 4612811918334230528] 26))
  have hc2 := (hc1.alloc (by rw [e1]; omega) (.cells (sCells N n rows) 29))
  have hb2 := (h.b.alloc (.cells #[.float .f64 4612811918334230528] 26)).alloc (.cells (sCells N n rows) 29)
  have r1 : ((wr.alloc (.cells #[.float .f64 4612811918334230528] 26)).alloc (.cells (sCells N n rows) 29)).cell? ⟨N + 2 + 2 * n + 1, 0, none⟩ = some (.float .f64 4612811918334230528) := by
    refine (World.cell?_of_block (w := wr.alloc (.cells #[.float .f64 4612811918334230528] 26)) (Below.heap_alloc _ _ _ (by rw [e1]; show N + 2 + 2 * n + 1 < _; omega))).trans ?_
    exact cell_new' _ _ _ _ _ h.size
  have s0 : ∀ i, ((wr.alloc (.cells #[.float .f64 4612811918334230528] 26)).alloc (.cells (sCells N n rows) 29)).cell? ⟨N + 2 + 2 * n + 1 + 1, i, none⟩ = (sCells N n rows)[i]? := fun i => cell_new' _ _ _ _ _ e1
  generalize (wr.alloc (.cells #[.float .f64 4612811918334230528] 26)).alloc (.cells (sCells N n rows) 29) = w3 at *
  have k1 : ∀ k, (∀ i, i < n → k ≠ tOf N i) → k ≠ N + 2 + 2 * n → (w1.setCell ⟨N + 2 + 2 * n, on, none⟩ (.int .i64 z)).heap[k]? = w3.heap[k]? := fun k a b => (Below.heap_setCell _ _ _ _ b).trans (hm.keep k a)
  have kc : ∀ k j, (∀ i, i < n → k ≠ tOf N i) → k ≠ N + 2 + 2 * n → (w1.setCell ⟨N + 2 + 2 * n, on, none⟩ (.int .i64 z)).cell? ⟨k, j, none⟩ = w3.cell? ⟨k, j, none⟩ := fun k j a b => World.cell?_of_block (w := w3) (k1 k a b)
  refine ⟨⟨hm.os.trans hc2.below.os, hm.tape.trans hc2.below.tape, hm.output.trans hc2.below.output, ?_, fun k hk => (k1 k (fun i _ => by unfold tOf; omega) (by omega)).trans (hc2.below.block k hk)⟩, fun k hk => ?_, fun k hk => ?_, fun k j hk hj => ?_, fun k j hk hj => ?_, fun k hk => ?_, ?_, ?_, ?_, ?_, ?_⟩
  · have := hc2.below.size
    have e : (w1.setCell ⟨N + 2 + 2 * n, on, none⟩ (.int .i64 z)).heap.size = w1.heap.size := by simp [World.setCell]
    rw [e, hm.size]; exact this
  · exact (kc _ _ (fun i _ => by unfold tOf; omega) (by omega)).trans (hc2.t k hk)
  · exact (kc _ _ (fun i _ => by unfold tOf; omega) (by omega)).trans (hc2.o k hk)
  · exact ((hm.rows k hk).setOther (by show tOf N k ≠ N + 2 + 2 * n; unfold tOf; omega) _).cell hj
  · exact (kc _ _ (fun i _ => by unfold tOf; omega) (by omega)).trans ((hc2.ro k hk).cell hj)
  · refine (((hb2.of_block (hm.keep _ (fun i _ => by unfold tOf; omega))).set on (.int .i64 z)).cell hk).trans ?_
    show some (if k = on then _ else _) = some (Value.int .i64 (if k = on then z else bv k))
    by_cases e : k = on
    · rw [if_pos e, if_pos e]
    · rw [if_neg e, if_neg e, if_pos (by omega)]
  · exact (kc _ _ (fun i _ => by unfold tOf; omega) (by omega)).trans (s0 0)
  · exact (kc _ _ (fun i _ => by unfold tOf; omega) (by omega)).trans (s0 1)
  · exact (kc _ _ (fun i _ => by unfold tOf; omega) (by omega)).trans (s0 2)
  · exact (kc _ _ (fun i _ => by unfold tOf; omega) (by omega)).trans (s0 3)
  · exact (kc _ _ (fun i _ => by unfold tOf; omega) (by omega)).trans r1

theorem feq_row {V C : Nat → Nat → Nat} {wd o c n j : Nat} (h : P2 V C wd o c n) (hj : j < wd) (w1 : World) : Feq (C o j) (fop .quo (V o j) (V o c) w1) :=
  res_congr (.inl rfl) (h.row j hj) (res_fop .quo _ _ w1) (Feq.refl _) (Feq.refl _)
theorem feq_zero {V C : Nat → Nat → Nat} {wd o c n j k : Nat} (h : P2 V C wd o c n) (hk : k < n) (hko : k ≠ o) (hz : isZ (V k c) = true) : C k j = V k j := by
  rcases h.done k hk hko with ⟨_, e⟩ | ⟨e, _⟩
  · rw [e]
  · rw [hz] at e; cases e
theorem feq_red {V C : Nat → Nat → Nat} {wd o c n j k : Nat} (h : P2 V C wd o c n) (hj : j < wd) (hk : k < n) (hko : k ≠ o) (hz : isZ (V k c) = false) (w1 w2 w3 : World) :
    Feq (C k j) (fop .sub (V k j) (fop .mul (V k c) (fop .quo (V o j) (V o c) w1) w2) w3) := by
  rcases h.done k hk hko with ⟨e, _⟩ | ⟨_, e⟩
  · rw [hz] at e; cases e
  · obtain ⟨m, hm, hr⟩ := e j hj
    have hm' : Feq m (fop .mul (V k c) (fop .quo (V o j) (V o c) w1) w2) := res_congr (.inr (.inl rfl)) hm (res_fop .mul _ _ w2) (Feq.refl _) (feq_row h hj w1)
    exact res_congr (.inr (.inr rfl)) hr (res_fop .sub _ _ w3) (Feq.refl _) hm'
theorem pivot_here {N n wd : Nat} {w wr : World} {V : Nat → Nat → Nat} {bv : Nat → Int} {q : Nat} (h : Bas N n wd w wr V bv q) (hq : n ≤ q) (rows : Int) (on c : Nat) (hon : on < n) (hc : c < wd) (Bo : Int) (hn : (n : Int) ≤ Bo) (hw : (wd : Int) ≤ Bo) (hBo : Bo ≤ 65536) :
    Calls Yba.prog 4 #[.pointer (some ⟨N + 2 + 2 * n + 1 + 1, 0, none⟩), .int .i64 on, .int .i64 c]
      ((wr.alloc (.cells #[.float .f64 4612811918334230528] 26)).alloc (.cells #[.slice (some ⟨N, 0, none⟩) n n, .slice (some ⟨N + 2 + 2 * n, 0, none⟩) n n, .int .i64 rows, .slice (some ⟨N + 2 + 2 * n + 1, 0, none⟩) 1 1] 29))
      fun e w' => e = .returned (.tuple #[]) ∧ ∃ C, P2 V C wd on c n ∧ Fin' N n wd w w' V C (fun k => if k = on then (c : Int) else bv k) rows := by
  refine (pivot_calls (N + 2 + 2 * n + 1 + 1) N (N + 2 + 2 * n) n wd on c (tOf N) V _ Bo hn hw hBo hon hc (bas_tab h rows (.cells #[.float .f64 4612811918334230528] 26)) (bas_mem h rows (.cells #[.float .f64 4612811918334230528] 26))).mono ?_
  rintro e w' ⟨rfl, C, w1, hm, hp, rfl⟩
  exact ⟨rfl, C, hp, Fin'.make h hq rows hm on hon c⟩
theorem store_row {w : World} {b n j : Nat} {t : TypeId} {f : Nat → Value} (h : w.rowIs b t n f) (hj : j < n) (v : Nat) : (store ⟨b, j, none⟩ (.float .f64 v)).run Yba.prog w = .ok () (w.setCell ⟨b, j, none⟩ (.float .f64 v)) := by
  have h1 := h.cell hj
  have h2 := h.frozen j
  rw [run_store Yba.prog w _ _ _ rfl, h1, h2]
  rfl
end Go.Proofs.Ybulkexua

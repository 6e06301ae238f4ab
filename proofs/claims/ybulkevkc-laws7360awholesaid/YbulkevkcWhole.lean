import Derived.Test.YbulkevkcLink
import Derived.Test.YbulkevkcSame
import Derived.Deep.OwnRows
import Derived.Deep.LoopGhost
import Derived.Deep.DeepCutAuto
import Derived.Deep.DeepFit
import Derived.Laws.Pointers
namespace Go.Proofs.Ybulkevkc
open Go.RowKit

theorem Yba.info5' : (Yba.prog.info? 5).map (fun i => (i.zero, i.size, i.bytes)) = some (some (.int .u8 0), 1, 1) := by kernel_rfl

/-- What the law's walk is told of 'data': nil; empty, not nil; or octets in memory. -/
def DataIs (w : World) (a : Option Addr) (n : Nat) (z : Nat → Int) : Prop :=
  (a = none ∧ n = 0) ∨ (∃ x, a = some x ∧ n = 0) ∨ ∃ b off, a = some ⟨b, off, none⟩ ∧ 0 < n ∧ b < w.heap.size ∧ ∀ i, i < n → w.cell? ⟨b, off + i, none⟩ = some (.int .u8 (z i))
/-- .. and of its copy, in the world behind the copying. -/
def CopyIs (N : Nat) (w : World) (a : Option Addr) (n : Nat) (z : Nat → Int) (d : Value) : Prop :=
  (a = none ∧ d = .slice none 0 0) ∨ (∃ x, a = some x ∧ d = .slice (some ⟨N, 0, none⟩) n n ∧ w.rowIs N 5 n (fun i => .int .u8 (z i)))

/-- The copying, k octets done. -/
structure CopyAt (w wr : World) (hs hd : Array Value) (n : Nat) (z : Nat → Int) (k : Nat) : Prop where
  below : Below w.heap.size w wr
  h0 : wr.heap[w.heap.size]? = some (.cells hs 22 (0, 0))
  h1 : wr.heap[w.heap.size + 1]? = some (.cells hd 23 (0, 0))
  row : wr.rowIs (w.heap.size + 1 + 1) 5 n (fun i => if i < k then .int .u8 (z i) else .int .u8 0)

theorem two_blocks (w : World) (hs hd : Array Value) : Below w.heap.size w ((w.alloc (.cells hs 22)).alloc (.cells hd 23)) ∧ ((w.alloc (.cells hs 22)).alloc (.cells hd 23)).heap[w.heap.size]? = some (.cells hs 22 (0, 0)) ∧ ((w.alloc (.cells hs 22)).alloc (.cells hd 23)).heap[w.heap.size + 1]? = some (.cells hd 23 (0, 0)) := by
  refine ⟨((Below.refl _ w).alloc (Nat.le_refl _) _).alloc (by simp) _, ?_, ?_⟩
  · rw [Below.heap_alloc _ _ _ (by simp)]; exact heap_alloc_new _ _
  · simpa using heap_alloc_new (w.alloc (.cells hs 22)) (.cells hd 23)
theorem copy_start (w : World) (hs hd : Array Value) (n : Nat) (z : Nat → Int) : CopyAt w (((w.alloc (.cells hs 22)).alloc (.cells hd 23)).alloc (.cells (madeCells #[.int .u8 0] n) 5)) hs hd n z 0 := by
  obtain ⟨hb, q0, q1⟩ := two_blocks w hs hd
  refine ⟨hb.alloc (by simp; omega) _, ?_, ?_, ?_⟩
  · rw [Below.heap_alloc _ _ _ (by simp; omega)]; exact q0
  · rw [Below.heap_alloc _ _ _ (by simp)]; exact q1
  · simpa using World.rowIs_made ((w.alloc (.cells hs 22)).alloc (.cells hd 23)) (.int .u8 0) n 5
theorem copy_step {w wr : World} {hs hd : Array Value} {n k : Nat} {z : Nat → Int} (h : CopyAt w wr hs hd n z k) (_hk : k < n) : CopyAt w (wr.setCell ⟨w.heap.size + 1 + 1, k, none⟩ (.int .u8 (z k))) hs hd n z (k + 1) := by
  refine ⟨h.below.setCell (by simp; omega) _, ?_, ?_, ?_⟩
  · rw [Below.heap_setCell _ _ _ _ (by simp; omega)]; exact h.h0
  · rw [Below.heap_setCell _ _ _ _ (by simp)]; exact h.h1
  · refine (h.row.set k (.int .u8 (z k))).congr fun i hi => ?_
    by_cases e : i = k
    · subst e; simp
    · by_cases e' : i < k
      · simp [e, e', show i < k + 1 by omega]
      · simp [e, e', show ¬ i < k + 1 by omega]
theorem copied_some {w wr : World} {hs hd : Array Value} {n k : Nat} {z : Nat → Int} {x : Addr} (h : CopyAt w wr hs hd n z k) (hk : k = n) :
    CopyIs (w.heap.size + 1 + 1) wr (some x) n z (.slice (some ⟨w.heap.size + 1 + 1, 0, none⟩) n n) ∧ wr.heap[w.heap.size]? = some (.cells hs 22 (0, 0)) ∧ wr.heap[w.heap.size + 1]? = some (.cells hd 23 (0, 0)) ∧ Below w.heap.size w wr :=
  ⟨.inr ⟨x, rfl, rfl, h.row.congr fun i hi => by simp [show i < k by omega]⟩, h.h0, h.h1, h.below⟩
theorem copied_none (w : World) (hs hd : Array Value) (z : Nat → Int) (x : Addr) :
    CopyIs (w.heap.size + 1 + 1) (((w.alloc (.cells hs 22)).alloc (.cells hd 23)).alloc (.cells (madeCells #[.int .u8 0] 0) 5)) (some x) 0 z (.slice (some ⟨w.heap.size + 1 + 1, 0, none⟩) 0 0) ∧ (((w.alloc (.cells hs 22)).alloc (.cells hd 23)).alloc (.cells (madeCells #[.int .u8 0] 0) 5)).heap[w.heap.size]? = some (.cells hs 22 (0, 0)) ∧
      (((w.alloc (.cells hs 22)).alloc (.cells hd 23)).alloc (.cells (madeCells #[.int .u8 0] 0) 5)).heap[w.heap.size + 1]? = some (.cells hd 23 (0, 0)) ∧ Below w.heap.size w (((w.alloc (.cells hs 22)).alloc (.cells hd 23)).alloc (.cells (madeCells #[.int .u8 0] 0) 5)) :=
  copied_some (copy_start w hs hd 0 z) rfl
theorem copied_nil (w : World) (hs hd : Array Value) (z : Nat → Int) :
    CopyIs (w.heap.size + 1 + 1) ((w.alloc (.cells hs 22)).alloc (.cells hd 23)) none 0 z (.slice none 0 0) ∧ ((w.alloc (.cells hs 22)).alloc (.cells hd 23)).heap[w.heap.size]? = some (.cells hs 22 (0, 0)) ∧
      ((w.alloc (.cells hs 22)).alloc (.cells hd 23)).heap[w.heap.size + 1]? = some (.cells hd 23 (0, 0)) ∧ Below w.heap.size w ((w.alloc (.cells hs 22)).alloc (.cells hd 23)) :=
  ⟨.inl ⟨rfl, rfl⟩, (two_blocks w hs hd).2.1, (two_blocks w hs hd).2.2, (two_blocks w hs hd).1⟩

theorem array24 {hs : Array Value} (h : hs.size = 24) : ∃ h0 h1 h2 h3 h4 h5 h6 h7 h8 h9 h10 h11 h12 h13 h14 h15 h16 h17 h18 h19 h20 h21 h22 h23 : Value, hs = #[h0, h1, h2, h3, h4, h5, h6, h7, h8, h9, h10, h11, h12, h13, h14, h15, h16, h17, h18, h19, h20, h21, h22, h23] := by
  obtain ⟨l⟩ := hs
  simp at h
  match l, h with
  | [h0, h1, h2, h3, h4, h5, h6, h7, h8, h9, h10, h11, h12, h13, h14, h15, h16, h17, h18, h19, h20, h21, h22, h23], _ => exact ⟨h0, h1, h2, h3, h4, h5, h6, h7, h8, h9, h10, h11, h12, h13, h14, h15, h16, h17, h18, h19, h20, h21, h22, h23, rfl⟩
theorem array16 {hs : Array Value} (h : hs.size = 16) : ∃ a0 a1 a2 a3 a4 a5 a6 a7 a8 a9 a10 a11 a12 a13 a14 a15 : Value, hs = #[a0, a1, a2, a3, a4, a5, a6, a7, a8, a9, a10, a11, a12, a13, a14, a15] := by
  obtain ⟨l⟩ := hs
  simp at h
  match l, h with
  | [a0, a1, a2, a3, a4, a5, a6, a7, a8, a9, a10, a11, a12, a13, a14, a15], _ => exact ⟨a0, a1, a2, a3, a4, a5, a6, a7, a8, a9, a10, a11, a12, a13, a14, a15, rfl⟩

/-- A Reader's cells. -/
def rdCells (X : Value) (hs hd : Array Value) (D : Value) : Array Value := #[.pointer none, X] ++ hs ++ hd ++ #[D]
theorem built_four (t : TypeId) (v : Value) (hs hd : Array Value) (a : Option Addr) (n c : Nat) (h : hs.size = 24) (h' : hd.size = 16) :
    Yba.prog.built 35 [(1, .iface t v), (2, .agg hs), (3, .agg hd), (4, .slice a n c)] = some (rdCells (.iface t v) hs hd (.slice a n c)) := by
  obtain ⟨h0, h1, h2, h3, h4, h5, h6, h7, h8, h9, h10, h11, h12, h13, h14, h15, h16, h17, h18, h19, h20, h21, h22, h23, rfl⟩ := array24 h
  obtain ⟨a0, a1, a2, a3, a4, a5, a6, a7, a8, a9, a10, a11, a12, a13, a14, a15, rfl⟩ := array16 h'
  kernel_rfl
theorem rd_at (X D : Value) (hs hd : Array Value) (h : hs.size = 24) (h' : hd.size = 16) : (rdCells X hs hd D)[1]? = some X ∧ (rdCells X hs hd D)[22]? = hs[20]? ∧ (rdCells X hs hd D)[23]? = hs[21]? ∧ (rdCells X hs hd D)[24]? = hs[22]? ∧ (rdCells X hs hd D)[25]? = hs[23]? ∧
    (rdCells X hs hd D)[42]? = some D ∧ (rdCells X hs hd D)[0]? = some (.pointer none) ∧ (rdCells X hs hd D).extract 2 26 = hs ∧ (rdCells X hs hd D).extract 26 42 = hd := by
  obtain ⟨h0, h1, h2, h3, h4, h5, h6, h7, h8, h9, h10, h11, h12, h13, h14, h15, h16, h17, h18, h19, h20, h21, h22, h23, rfl⟩ := array24 h
  obtain ⟨a0, a1, a2, a3, a4, a5, a6, a7, a8, a9, a10, a11, a12, a13, a14, a15, rfl⟩ := array16 h'
  exact ⟨by kernel_rfl, by kernel_rfl, by kernel_rfl, by kernel_rfl, by kernel_rfl, by kernel_rfl, by kernel_rfl, by kernel_rfl, by kernel_rfl⟩

theorem wpList_build4 {P : Program} {ops : Array Oper} {rest : List Oper} {o : Oper} {a : Act} {w : World} {Q : Exit → Act → World → Prop} (hgd : o.guard = none) (t : TypeId) (i j k l : Nat) (x y z u : Operand) (ho : o.op = .build t #[(i, x), (j, y), (k, z), (l, u)])
    (vx vy vz vu : Value) (hx : a.eval x = vx) (hy : a.eval y = vy) (hz : a.eval z = vz) (hu : a.eval u = vu) (cells : Array Value) (hf : P.built t [(i, vx), (j, vy), (k, vz), (l, vu)] = some cells)
    (h : wpList P ops Q rest (a.put o.dst (.agg cells)) w) : wpList P ops Q (o :: rest) a w := by
  subst hx hy hz hu
  exact wpList_plain hgd fun _ hK => wp_build t _ ho (by simp [hf]) (by simpa [hf] using hK _ _ h)

/-- What the walk behind the copying needs of the world at LinkType's end. -/
structure AfterLink (N br : Nat) (w w1 : World) (hs hd : Array Value) (a : Option Addr) (n : Nat) (z : Nat → Int) (d : Value) : Prop where
  below : Below N w w1
  r0 : w1.rangeAt N 0 hs.toList
  r1 : w1.rangeAt (N + 1) 0 hd.toList
  r2 : w1.rangeAt br 2 hs.toList
  r3 : w1.rangeAt br 26 hd.toList
  p0 : w1.cell? ⟨br, 0, none⟩ = some (.pointer none)
  p42 : w1.cell? ⟨br, 42, none⟩ = some d
  copy : CopyIs (N + 1 + 1) w1 a n z d

theorem copy_kept {N : Nat} {w w1 : World} {a : Option Addr} {n : Nat} {z : Nat → Int} {d : Value} (h : CopyIs N w a n z d) (hk : ∀ k, k < w.heap.size → w1.heap[k]? = w.heap[k]?) : CopyIs N w1 a n z d := by
  rcases h with ⟨h1, h2⟩ | ⟨x, h1, h2, h3⟩
  · exact .inl ⟨h1, h2⟩
  · exact .inr ⟨x, h1, h2, h3.of_block (hk N h3.lt)⟩
theorem data_kept {w w1 : World} {a : Option Addr} {n : Nat} {z : Nat → Int} (h : DataIs w a n z) (hb : Below w.heap.size w w1) : DataIs w1 a n z := by
  rcases h with h | h | ⟨b, off, h1, h2, h3, h4⟩
  · exact .inl h
  · exact .inr (.inl h)
  · exact .inr (.inr ⟨b, off, h1, h2, Nat.lt_of_lt_of_le h3 hb.size, fun i hi => (hb.cell (p := ⟨b, off + i, none⟩) h3).trans (h4 i hi)⟩)
theorem same_copy {N : Nat} {w : World} {a : Option Addr} {n c : Nat} {z : Nat → Int} {d : Value} (hn : n ≤ 1048576) (h : DataIs w a n z) (hc : CopyIs N w a n z d) :
    Calls Yba.prog 7 #[d, .slice a n c] w fun e w' => e = .returned (.bool true) ∧ ∃ m, w' = w.drewN m := by
  rcases hc with ⟨h1, rfl⟩ | ⟨x, h1, rfl, h3⟩
  · subst h1
    rcases h with ⟨_, rfl⟩ | ⟨x, h, _⟩ | ⟨b, off, h, _⟩
    · exact same_nil c w
    · cases h
    · cases h
  · subst h1
    rcases h with ⟨h, _⟩ | ⟨x, _, rfl⟩ | ⟨b, off, h, _, _, h4⟩
    · cases h
    · exact same_none _ _ _ _ w
    · cases h
      exact same_rows N 0 b off n n c z w hn (fun i hi => by simpa using h3.cell hi) h4

theorem after_link {w wc w1 : World} {hs hd : Array Value} {t : TypeId} {v : Value} {a : Option Addr} {n : Nat} {z : Nat → Int} {a' : Option Addr} {n' c' : Nat} (h24 : hs.size = 24) (h16 : hd.size = 16)
    (hcopy : CopyIs (w.heap.size + 1 + 1) wc a n z (.slice a' n' c')) (q0 : wc.heap[w.heap.size]? = some (.cells hs 22 (0, 0))) (q1 : wc.heap[w.heap.size + 1]? = some (.cells hd 23 (0, 0))) (hb : Below w.heap.size w wc)
    (hl : Below (wc.alloc (.cells (rdCells (.iface t v) hs hd (.slice a' n' c')) 35)).heap.size (wc.alloc (.cells (rdCells (.iface t v) hs hd (.slice a' n' c')) 35)) w1) :
    AfterLink w.heap.size wc.heap.size w w1 hs hd a n z (.slice a' n' c') := by
  have lt1 : w.heap.size + 1 < wc.heap.size := (Array.getElem?_eq_some_iff.1 q1).1
  have hk : ∀ k, k < wc.heap.size → w1.heap[k]? = wc.heap[k]? := fun k h => by rw [hl.block k (by simp; omega), Below.heap_alloc _ _ _ h]
  have b0 := (hk _ (by omega)).trans q0
  have b1 := (hk _ lt1).trans q1
  have b2 : w1.heap[wc.heap.size]? = some (.cells (rdCells (.iface t v) hs hd (.slice a' n' c')) 35 (0, 0)) := by rw [hl.block _ (by simp)]; exact heap_alloc_new _ _
  obtain ⟨r1, r22, r23, r24, r25, r42, r0, rH, rD⟩ := rd_at (.iface t v) (.slice a' n' c') hs hd h24 h16
  refine ⟨hb.trans ((((Below.refl _ wc).alloc (by omega) _).trans (hl.mono (by simp; omega)))), ?_, ?_, ?_, ?_, (cell_of_row _ _ _ _ _ _ b2).trans r0, (cell_of_row _ _ _ _ _ _ b2).trans r42, copy_kept hcopy hk⟩
  · have := World.rangeAt_of_block b0 0 24
    rw [show hs.extract 0 (0 + 24) = hs by simp [← h24]] at this
    exact this
  · have := World.rangeAt_of_block b1 0 16
    rw [show hd.extract 0 (0 + 16) = hd by simp [← h16]] at this
    exact this
  · have := World.rangeAt_of_block b2 2 24
    rw [rH] at this
    exact this
  · have := World.rangeAt_of_block b2 26 16
    rw [rD] at this
    exact this
theorem link_le_at {w wc : World} {hs hd : Array Value} {a : Option Addr} {n : Nat} {z : Nat → Int} {a' : Option Addr} {n' c' : Nat} (x0 x1 x2 x3 : Int) (b0 : 0 ≤ x0 ∧ x0 ≤ 255) (b1 : 0 ≤ x1 ∧ x1 ≤ 255) (b2 : 0 ≤ x2 ∧ x2 ≤ 255) (b3 : 0 ≤ x3 ∧ x3 ≤ 255) (h24 : hs.size = 24) (h16 : hd.size = 16)
    (e0 : hs[20]? = some (.int .u8 x0)) (e1 : hs[21]? = some (.int .u8 x1)) (e2 : hs[22]? = some (.int .u8 x2)) (e3 : hs[23]? = some (.int .u8 x3))
    (hcopy : CopyIs (w.heap.size + 1 + 1) wc a n z (.slice a' n' c')) (q0 : wc.heap[w.heap.size]? = some (.cells hs 22 (0, 0))) (q1 : wc.heap[w.heap.size + 1]? = some (.cells hd 23 (0, 0))) (hb : Below w.heap.size w wc) :
    Calls Yba.prog 6 #[.pointer (some ⟨wc.heap.size, 0, none⟩)] (wc.alloc (.cells (rdCells (.iface 26 (.agg #[])) hs hd (.slice a' n' c')) 35)) fun e w1 => e = .returned (.int .u16 (x0 + x1 * 256)) ∧ AfterLink w.heap.size wc.heap.size w w1 hs hd a n z (.slice a' n' c') := by
  have qb := heap_alloc_new wc (.cells (rdCells (.iface 26 (.agg #[])) hs hd (.slice a' n' c')) 35)
  obtain ⟨r1, r22, r23, r24, r25, r42, r0, rH, rD⟩ := rd_at (.iface 26 (.agg #[])) (.slice a' n' c') hs hd h24 h16
  have L := link_le wc.heap.size x0 x1 x2 x3 (wc.alloc (.cells (rdCells (.iface 26 (.agg #[])) hs hd (.slice a' n' c')) 35)) b0 b1 b2 b3 ((cell_of_row _ _ _ _ _ _ qb).trans r1)
    ((cell_of_row _ _ _ _ _ _ qb).trans (r22.trans e0)) ((cell_of_row _ _ _ _ _ _ qb).trans (r23.trans e1)) ((cell_of_row _ _ _ _ _ _ qb).trans (r24.trans e2)) ((cell_of_row _ _ _ _ _ _ qb).trans (r25.trans e3))
  exact L.mono fun e w1 ⟨he, hl⟩ => ⟨he, after_link h24 h16 hcopy q0 q1 hb hl⟩

theorem link_be_at {w wc : World} {hs hd : Array Value} {a : Option Addr} {n : Nat} {z : Nat → Int} {a' : Option Addr} {n' c' : Nat} (x0 x1 x2 x3 : Int) (b0 : 0 ≤ x0 ∧ x0 ≤ 255) (b1 : 0 ≤ x1 ∧ x1 ≤ 255) (b2 : 0 ≤ x2 ∧ x2 ≤ 255) (b3 : 0 ≤ x3 ∧ x3 ≤ 255) (h24 : hs.size = 24) (h16 : hd.size = 16)
    (e0 : hs[20]? = some (.int .u8 x0)) (e1 : hs[21]? = some (.int .u8 x1)) (e2 : hs[22]? = some (.int .u8 x2)) (e3 : hs[23]? = some (.int .u8 x3))
    (hcopy : CopyIs (w.heap.size + 1 + 1) wc a n z (.slice a' n' c')) (q0 : wc.heap[w.heap.size]? = some (.cells hs 22 (0, 0))) (q1 : wc.heap[w.heap.size + 1]? = some (.cells hd 23 (0, 0))) (hb : Below w.heap.size w wc) :
    Calls Yba.prog 6 #[.pointer (some ⟨wc.heap.size, 0, none⟩)] (wc.alloc (.cells (rdCells (.iface 30 (.agg #[])) hs hd (.slice a' n' c')) 35)) fun e w1 => e = .returned (.int .u16 (x3 + x2 * 256)) ∧ AfterLink w.heap.size wc.heap.size w w1 hs hd a n z (.slice a' n' c') := by
  have qb := heap_alloc_new wc (.cells (rdCells (.iface 30 (.agg #[])) hs hd (.slice a' n' c')) 35)
  obtain ⟨r1, r22, r23, r24, r25, r42, r0, rH, rD⟩ := rd_at (.iface 30 (.agg #[])) (.slice a' n' c') hs hd h24 h16
  have L := link_be wc.heap.size x0 x1 x2 x3 (wc.alloc (.cells (rdCells (.iface 30 (.agg #[])) hs hd (.slice a' n' c')) 35)) b0 b1 b2 b3 ((cell_of_row _ _ _ _ _ _ qb).trans r1)
    ((cell_of_row _ _ _ _ _ _ qb).trans (r22.trans e0)) ((cell_of_row _ _ _ _ _ _ qb).trans (r23.trans e1)) ((cell_of_row _ _ _ _ _ _ qb).trans (r24.trans e2)) ((cell_of_row _ _ _ _ _ _ qb).trans (r25.trans e3))
  exact L.mono fun e w1 ⟨he, hl⟩ => ⟨he, after_link h24 h16 hcopy q0 q1 hb hl⟩

theorem below_draws' {B : Nat} {w w' : World} (h : Below B w w') (n : Nat) : Below B w (w'.drewN n) := ⟨h.os, h.tape, h.output, h.size, h.block⟩
theorem copy_form {N : Nat} {w : World} {a : Option Addr} {n : Nat} {z : Nat → Int} {d : Value} (h : CopyIs N w a n z d) : ∃ a' n' c', d = .slice a' n' c' := by
  rcases h with ⟨_, h⟩ | ⟨_, _, h, _⟩
  · exact ⟨_, _, _, h⟩
  · exact ⟨_, _, _, h⟩
theorem range_drewN' {w : World} {b o : Nat} {cs : List Value} (h : w.rangeAt b o cs) (n : Nat) : (w.drewN n).rangeAt b o cs := fun j v hv => by simpa using h j v hv

set_option maxHeartbeats 400000 in
set_option maxRecDepth 100000 in
theorem whole_walk (hs hd : Array Value) (big : Bool) (a : Option Addr) (n c : Nat) (z : Nat → Int) (x0 x1 x2 x3 : Int) (w : World) (hoct : Octets hs 24) (hoct' : Octets hd 16)
    (b0 : 0 ≤ x0 ∧ x0 ≤ 255) (b1 : 0 ≤ x1 ∧ x1 ≤ 255) (b2 : 0 ≤ x2 ∧ x2 ≤ 255) (b3 : 0 ≤ x3 ∧ x3 ≤ 255)
    (e0 : hs[20]? = some (.int .u8 x0)) (e1 : hs[21]? = some (.int .u8 x1)) (e2 : hs[22]? = some (.int .u8 x2)) (e3 : hs[23]? = some (.int .u8 x3)) (hd0 : DataIs w a n z) (hn : n ≤ 1048576) :
    Calls Yba.prog 3 #[.agg hs, .bool big, .agg hd, .slice a n c] w fun e w' => e = .returned (.bool true) ∧ Below w.heap.size w w' := by
  have hne := fun (w : World) (a : Option Addr) (n c : Nat) => run_neq_slice_nil_any (P := Yba.prog) w 24 5 a n c 0 0 Yba.underlying24
  have hmk := run_make_row' (P := Yba.prog) 24 5 (.int .u8 0) 1 Yba.underlying24 Yba.info5' rfl .i64 .i64 n (by omega) (by omega)
  go_enter Yba.func3, Yba.ntmps3
  go_upto_if 19 with fail
  go_cut [9] (fun d wc => CopyIs (w.heap.size + 1 + 1) wc a n z d ∧ wc.heap[w.heap.size]? = some (.cells hs 22 (0, 0)) ∧ wc.heap[w.heap.size + 1]? = some (.cells hd 23 (0, 0)) ∧ Below w.heap.size w wc)
  case first =>
    rcases hd0 with ⟨rfl, rfl⟩ | ⟨x, rfl, rfl⟩ | ⟨b, off, rfl, h0, hb, hc⟩
    · go_wp2_with fail
      go_meet
      case rel => exact copied_nil w hs hd z
    · have hmk0 : ∀ w, (Instr.makeSlice 24 (.int .i64 0) (.int .i64 0)).run Yba.prog w = .ok (.slice (some ⟨w.heap.size, 0, none⟩) 0 0) (w.alloc (.cells (madeCells #[.int .u8 0] 0) 5)) := hmk
      clear hmk
      go_wp2_with fail
      go_loop [10] (fun i => i = .int .i64 0) (fun _ => 0)
      case atStart => rfl
      case round =>
        obtain rfl := hrel
        go_wp2_with fail
        go_meet
        case rel => exact copied_none w hs hd z x
    · go_wp2_with fail
      go_loopw [10] (fun i wr => ∃ k : Nat, k ≤ n ∧ i = .int .i64 k ∧ CopyAt w wr hs hd n z k) (fun i _ => n - (intOf i).toNat)
      case atStart => exact ⟨0, Nat.zero_le _, rfl, copy_start w hs hd n z⟩
      case round =>
        obtain ⟨k, hk, rfl, hR⟩ := hrel
        by_cases hlt : k < n
        · have hi : (k : Int) < (n : Int) := by omega
          have hck := (hR.below.cell (p := ⟨b, off + k, none⟩) hb).trans (hc k hlt)
          have hcr := hR.row.cell hlt
          have hfr := hR.row.frozen k
          have HR : Hid (CopyAt w wr hs hd n z k) := hR
          clear hR
          go_wp2_with fail
          go_roundw
          case rel => exact ⟨k + 1, by omega, by go_num, copy_step HR.out hlt⟩
          case measure => simp [intOf]; omega
        · go_wp2_with fail
          go_meet
          case rel => exact copied_some hR (by omega)
  case rest =>
    obtain ⟨hcopy, q0, q1, hbel⟩ := hcut
    have h24 := hoct.1
    have h16 := hoct'.1
    clear hmk hne
    obtain ⟨a', n', c', hdv⟩ := copy_form hcopy
    subst hdv
    have k20 := (cell_of_row wc w.heap.size 20 hs 22 (0, 0) q0).trans e0
    have k21 := (cell_of_row wc w.heap.size 21 hs 22 (0, 0) q0).trans e1
    have k22 := (cell_of_row wc w.heap.size 22 hs 22 (0, 0) q0).trans e2
    have k23 := (cell_of_row wc w.heap.size 23 hs 22 (0, 0) q0).trans e3
    have Q0 : Hid (wc.heap[w.heap.size]? = some (.cells hs 22 (0, 0))) := q0
    have Q1 : Hid (wc.heap[w.heap.size + 1]? = some (.cells hd 23 (0, 0))) := q1
    have HC : Hid (CopyIs (w.heap.size + 1 + 1) wc a n z (.slice a' n' c')) := hcopy
    have HB : Hid (Below w.heap.size w wc) := hbel
    have HD : Hid (DataIs w a n z) := hd0
    clear q0 q1 hcopy hbel hd0
    obtain ⟨b0a, b0b⟩ := id b0
    obtain ⟨b1a, b1b⟩ := id b1
    obtain ⟨b2a, b2b⟩ := id b2
    obtain ⟨b3a, b3b⟩ := id b3
    have hneq := fun w => neq_octets (P := Yba.prog) w 22 5 24 Yba.underlying22 Yba.underlying5 Yba.sizeOf5 hs hoct
    have hneq' := fun w => neq_octets (P := Yba.prog) w 23 5 16 Yba.underlying23 Yba.underlying5 Yba.sizeOf5 hd hoct'
    cases big
    · have hwant : bits .or .u16 x0 (x1 * 256) = x0 + x1 * 256 := or16 x0 x1 8 (by omega) (by omega) (by omega) (by omega)
      go_wp2_with (first
        | (refine wpList_load_row rfl 22 (.tmp 4) rfl w.heap.size rfl 22 hs (0, 0) _ Q0.out Yba.underlying22 rfl (by rw [h24]; exact Yba.size22) ?_)
        | (refine wpList_load_row rfl 23 (.tmp 6) rfl (w.heap.size + 1) rfl 23 hd (0, 0) _ Q1.out Yba.underlying23 rfl (by rw [h16]; exact Yba.size23) ?_)
        | (refine wpList_build4 rfl 35 1 2 3 4 (.tmp 57) (.tmp 58) (.tmp 59) (.tmp 60) rfl (.iface 26 (.agg #[])) (.agg hs) (.agg hd) (.slice a' n' c') rfl rfl rfl rfl (rdCells (.iface 26 (.agg #[])) hs hd (.slice a' n' c')) (built_four 26 (.agg #[]) hs hd a' n' c' h24 h16) ?_))
      refine (link_le_at x0 x1 x2 x3 b0 b1 b2 b3 h24 h16 e0 e1 e2 e3 HC.out Q0.out Q1.out HB.out).mono ?_
      rintro e w1 ⟨rfl, hA⟩
      have p0 := hA.p0
      have p42 := hA.p42
      have HA : Hid (AfterLink w.heap.size wc.heap.size w w1 hs hd a n z (.slice a' n' c')) := hA
      clear hA k20 k21 k22 k23 e0 e1 e2 e3 Q0 Q1 HC HB
      go_wp2_with fail
      refine wp_region_quiet_lit (by kernel_rfl) (by kernel_rfl) ?_
      iterate 9 (go_big_quiet_step (fail))
      go_big_quiet_want
      refine quiet_load_mid 22 (.tmp 76) rfl wc.heap.size 2 rfl hs _ (fun _ hw => by obtain ⟨m, rfl⟩ := hw; exact range_drewN' HA.out.r2 m) Yba.underlying22 rfl (by rw [h24]; exact Yba.size22) ?_
      simp only [Act.put, List.setIfInBounds_toArray, List.set_cons_succ, List.set_cons_zero]
      go_big_quiet_on
      go_big_quiet_want
      refine quiet_load_mid 22 (.tmp 4) rfl w.heap.size 0 rfl hs _ (fun _ hw => by obtain ⟨m, rfl⟩ := hw; exact range_drewN' HA.out.r0 m) Yba.underlying22 rfl (by rw [h24]; exact Yba.size22) ?_
      simp only [Act.put, List.setIfInBounds_toArray, List.set_cons_succ, List.set_cons_zero]
      go_big_quiet_on
      iterate 6 (go_big_quiet_step (fail))
      go_big_quiet_want
      refine quiet_load_mid 23 (.tmp 84) rfl wc.heap.size 26 rfl hd _ (fun _ hw => by obtain ⟨m, rfl⟩ := hw; exact range_drewN' HA.out.r3 m) Yba.underlying23 rfl (by rw [h16]; exact Yba.size23) ?_
      simp only [Act.put, List.setIfInBounds_toArray, List.set_cons_succ, List.set_cons_zero]
      go_big_quiet_on
      go_big_quiet_want
      refine quiet_load_mid 23 (.tmp 6) rfl (w.heap.size + 1) 0 rfl hd _ (fun _ hw => by obtain ⟨m, rfl⟩ := hw; exact range_drewN' HA.out.r1 m) Yba.underlying23 rfl (by rw [h16]; exact Yba.size23) ?_
      simp only [Act.put, List.setIfInBounds_toArray, List.set_cons_succ, List.set_cons_zero]
      go_big_quiet_on
      iterate 2 (go_big_quiet_step (fail))
      refine wpQuiet_nil ?_
      rintro _ ⟨nr, rfl⟩
      go_wp2_with fail
      refine (same_copy (c := c) hn (data_kept HD.out (below_draws' HA.out.below nr)) (copy_kept HA.out.copy (fun _ _ => rfl))).mono ?_
      rintro e w2 ⟨rfl, m, rfl⟩
      go_wp2_with fail
      go_ret
      exact ⟨rfl, below_draws' HA.out.below _⟩
    · have hwant := or16' x3 x2 b3 b2
      go_wp2_with (first
        | (refine wpList_load_row rfl 22 (.tmp 4) rfl w.heap.size rfl 22 hs (0, 0) _ Q0.out Yba.underlying22 rfl (by rw [h24]; exact Yba.size22) ?_)
        | (refine wpList_load_row rfl 23 (.tmp 6) rfl (w.heap.size + 1) rfl 23 hd (0, 0) _ Q1.out Yba.underlying23 rfl (by rw [h16]; exact Yba.size23) ?_)
        | (refine wpList_build4 rfl 35 1 2 3 4 (.tmp 57) (.tmp 58) (.tmp 59) (.tmp 60) rfl (.iface 30 (.agg #[])) (.agg hs) (.agg hd) (.slice a' n' c') rfl rfl rfl rfl (rdCells (.iface 30 (.agg #[])) hs hd (.slice a' n' c')) (built_four 30 (.agg #[]) hs hd a' n' c' h24 h16) ?_))
      refine (link_be_at x0 x1 x2 x3 b0 b1 b2 b3 h24 h16 e0 e1 e2 e3 HC.out Q0.out Q1.out HB.out).mono ?_
      rintro e w1 ⟨rfl, hA⟩
      have p0 := hA.p0
      have p42 := hA.p42
      have HA : Hid (AfterLink w.heap.size wc.heap.size w w1 hs hd a n z (.slice a' n' c')) := hA
      clear hA k20 k21 k22 k23 e0 e1 e2 e3 Q0 Q1 HC HB
      go_wp2_with fail
      refine wp_region_quiet_lit (by kernel_rfl) (by kernel_rfl) ?_
      iterate 9 (go_big_quiet_step (fail))
      go_big_quiet_want
      refine quiet_load_mid 22 (.tmp 76) rfl wc.heap.size 2 rfl hs _ (fun _ hw => by obtain ⟨m, rfl⟩ := hw; exact range_drewN' HA.out.r2 m) Yba.underlying22 rfl (by rw [h24]; exact Yba.size22) ?_
      simp only [Act.put, List.setIfInBounds_toArray, List.set_cons_succ, List.set_cons_zero]
      go_big_quiet_on
      go_big_quiet_want
      refine quiet_load_mid 22 (.tmp 4) rfl w.heap.size 0 rfl hs _ (fun _ hw => by obtain ⟨m, rfl⟩ := hw; exact range_drewN' HA.out.r0 m) Yba.underlying22 rfl (by rw [h24]; exact Yba.size22) ?_
      simp only [Act.put, List.setIfInBounds_toArray, List.set_cons_succ, List.set_cons_zero]
      go_big_quiet_on
      iterate 6 (go_big_quiet_step (fail))
      go_big_quiet_want
      refine quiet_load_mid 23 (.tmp 84) rfl wc.heap.size 26 rfl hd _ (fun _ hw => by obtain ⟨m, rfl⟩ := hw; exact range_drewN' HA.out.r3 m) Yba.underlying23 rfl (by rw [h16]; exact Yba.size23) ?_
      simp only [Act.put, List.setIfInBounds_toArray, List.set_cons_succ, List.set_cons_zero]
      go_big_quiet_on
      go_big_quiet_want
      refine quiet_load_mid 23 (.tmp 6) rfl (w.heap.size + 1) 0 rfl hd _ (fun _ hw => by obtain ⟨m, rfl⟩ := hw; exact range_drewN' HA.out.r1 m) Yba.underlying23 rfl (by rw [h16]; exact Yba.size23) ?_
      simp only [Act.put, List.setIfInBounds_toArray, List.set_cons_succ, List.set_cons_zero]
      go_big_quiet_on
      iterate 2 (go_big_quiet_step (fail))
      refine wpQuiet_nil ?_
      rintro _ ⟨nr, rfl⟩
      go_wp2_with fail
      refine (same_copy (c := c) hn (data_kept HD.out (below_draws' HA.out.below nr)) (copy_kept HA.out.copy (fun _ _ => rfl))).mono ?_
      rintro e w2 ⟨rfl, m, rfl⟩
      go_wp2_with fail
      go_ret
      exact ⟨rfl, below_draws' HA.out.below _⟩
end Go.Proofs.Ybulkevkc

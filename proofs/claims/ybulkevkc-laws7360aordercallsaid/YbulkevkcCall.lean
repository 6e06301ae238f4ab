import Derived.Test.YbulkevkcLinkOrd
import Derived.Test.YbulkevkcArr
import Derived.Deep.QuietTactic
import Derived.BigQuiet
import Derived.Deep.MidRow
namespace Go.Proofs.Ybulkevkc
open Go.RowKit

theorem array24 {hs : Array Value} (h : hs.size = 24) : ∃ h0 h1 h2 h3 h4 h5 h6 h7 h8 h9 h10 h11 h12 h13 h14 h15 h16 h17 h18 h19 h20 h21 h22 h23 : Value, hs = #[h0, h1, h2, h3, h4, h5, h6, h7, h8, h9, h10, h11, h12, h13, h14, h15, h16, h17, h18, h19, h20, h21, h22, h23] := by
  obtain ⟨l⟩ := hs
  simp at h
  match l, h with
  | [h0, h1, h2, h3, h4, h5, h6, h7, h8, h9, h10, h11, h12, h13, h14, h15, h16, h17, h18, h19, h20, h21, h22, h23], _ => exact ⟨h0, h1, h2, h3, h4, h5, h6, h7, h8, h9, h10, h11, h12, h13, h14, h15, h16, h17, h18, h19, h20, h21, h22, h23, rfl⟩

def z16 : Array Value := #[.int .u8 0, .int .u8 0, .int .u8 0, .int .u8 0, .int .u8 0, .int .u8 0, .int .u8 0, .int .u8 0, .int .u8 0, .int .u8 0, .int .u8 0, .int .u8 0, .int .u8 0, .int .u8 0, .int .u8 0, .int .u8 0]
/-- A Reader's cells. -/
def rdCells (X : Value) (hs hd : Array Value) (D : Value) : Array Value := #[.pointer none, X] ++ hs ++ hd ++ #[D]
theorem built_two (t : TypeId) (v : Value) (hs : Array Value) (h : hs.size = 24) :
    Yba.prog.built 35 [(1, .iface t v), (2, .agg hs)] = some (rdCells (.iface t v) hs z16 (.slice none 0 0)) := by
  obtain ⟨h0, h1, h2, h3, h4, h5, h6, h7, h8, h9, h10, h11, h12, h13, h14, h15, h16, h17, h18, h19, h20, h21, h22, h23, rfl⟩ := array24 h
  kernel_rfl

theorem wpList_build2 {P : Program} {ops : Array Oper} {rest : List Oper} {o : Oper} {a : Act} {w : World} {Q : Exit → Act → World → Prop} (hgd : o.guard = none) (t : TypeId) (i j : Nat) (x y : Operand) (ho : o.op = .build t #[(i, x), (j, y)])
    (u v : Value) (hx : a.eval x = u) (hy : a.eval y = v) (cells : Array Value) (hf : P.built t [(i, u), (j, v)] = some cells)
    (h : wpList P ops Q rest (a.put o.dst (.agg cells)) w) : wpList P ops Q (o :: rest) a w := by
  subst hx hy
  exact wpList_plain hgd fun _ hK => wp_build t _ ho (by simp [hf]) (by simpa [hf] using hK _ _ h)


theorem array16 {hs : Array Value} (h : hs.size = 16) : ∃ a0 a1 a2 a3 a4 a5 a6 a7 a8 a9 a10 a11 a12 a13 a14 a15 : Value, hs = #[a0, a1, a2, a3, a4, a5, a6, a7, a8, a9, a10, a11, a12, a13, a14, a15] := by
  obtain ⟨l⟩ := hs
  simp at h
  match l, h with
  | [a0, a1, a2, a3, a4, a5, a6, a7, a8, a9, a10, a11, a12, a13, a14, a15], _ => exact ⟨a0, a1, a2, a3, a4, a5, a6, a7, a8, a9, a10, a11, a12, a13, a14, a15, rfl⟩

theorem rd_at (X D : Value) (hs hd : Array Value) (h : hs.size = 24) (h' : hd.size = 16) : (rdCells X hs hd D)[1]? = some X ∧ (rdCells X hs hd D)[22]? = hs[20]? ∧ (rdCells X hs hd D)[23]? = hs[21]? ∧ (rdCells X hs hd D)[24]? = hs[22]? ∧ (rdCells X hs hd D)[25]? = hs[23]? ∧
    (rdCells X hs hd D)[42]? = some D ∧ (rdCells X hs hd D)[0]? = some (.pointer none) ∧ (rdCells X hs hd D).extract 2 26 = hs ∧ (rdCells X hs hd D).extract 26 42 = hd := by
  obtain ⟨h0, h1, h2, h3, h4, h5, h6, h7, h8, h9, h10, h11, h12, h13, h14, h15, h16, h17, h18, h19, h20, h21, h22, h23, rfl⟩ := array24 h
  obtain ⟨a0, a1, a2, a3, a4, a5, a6, a7, a8, a9, a10, a11, a12, a13, a14, a15, rfl⟩ := array16 h'
  exact ⟨by kernel_rfl, by kernel_rfl, by kernel_rfl, by kernel_rfl, by kernel_rfl, by kernel_rfl, by kernel_rfl, by kernel_rfl, by kernel_rfl⟩

theorem three (w : World) (A B C : Array Value) (r s t : TypeId) : (((w.alloc (.cells A r)).alloc (.cells B s)).alloc (.cells C t)).heap[w.heap.size]? = some (.cells A r (0, 0)) ∧
    (((w.alloc (.cells A r)).alloc (.cells B s)).alloc (.cells C t)).heap[w.heap.size + 1]? = some (.cells B s (0, 0)) ∧ (((w.alloc (.cells A r)).alloc (.cells B s)).alloc (.cells C t)).heap[w.heap.size + 2]? = some (.cells C t (0, 0)) := by
  refine ⟨?_, ?_, ?_⟩
  · rw [Below.heap_alloc _ _ _ (by simp; omega), Below.heap_alloc _ _ _ (by simp)]; exact heap_alloc_new _ _
  · rw [Below.heap_alloc _ _ _ (by simp)]; simpa using heap_alloc_new (w.alloc (.cells A r)) (.cells B s)
  · simpa using heap_alloc_new ((w.alloc (.cells A r)).alloc (.cells B s)) (.cells C t)

theorem free_row {w : World} {g j : Nat} {cur : Array Value} {t : TypeId} (h : w.heap[g]? = some (.cells cur t (0, 0))) : w.frozen? ⟨g, j, none⟩ = false := by
  simp [World.frozen?, h]

theorem link_at (hs : Array Value) (h24 : hs.size = 24) (v x0 x1 x2 x3 : Int) (w : World)
    (e0 : hs[20]? = some (.int .u8 x0)) (e1 : hs[21]? = some (.int .u8 x1)) (e2 : hs[22]? = some (.int .u8 x2)) (e3 : hs[23]? = some (.int .u8 x3)) :
    Calls Yba.prog 6 #[.pointer (some ⟨w.heap.size + 1 + 1, 0, none⟩)] (((w.alloc (.cells hs 22)).alloc (.cells #[.int .u32 v, .int .i64 0, .slice none 0 0] 42)).alloc (.cells (rdCells (.iface 40 (.pointer (some ⟨w.heap.size + 1, 0, none⟩))) hs z16 (.slice none 0 0)) 35))
      fun e w1 => e = .returned (.int .u16 (IntKind.u16.wrap v)) ∧ ∃ g cap, w1.cell? ⟨w.heap.size + 1, 1, none⟩ = some (.int .i64 1) ∧ w1.cell? ⟨w.heap.size + 1, 2, none⟩ = some (.slice (some ⟨g, 0, none⟩) 4 cap) ∧
        w1.cell? ⟨g, 0, none⟩ = some (.int .u8 x0) ∧ w1.cell? ⟨g, 1, none⟩ = some (.int .u8 x1) ∧ w1.cell? ⟨g, 2, none⟩ = some (.int .u8 x2) ∧ w1.cell? ⟨g, 3, none⟩ = some (.int .u8 x3) ∧
        w1.cell? ⟨w.heap.size, 20, none⟩ = some (.int .u8 x0) ∧ w1.cell? ⟨w.heap.size, 21, none⟩ = some (.int .u8 x1) ∧ w1.cell? ⟨w.heap.size, 22, none⟩ = some (.int .u8 x2) ∧ w1.cell? ⟨w.heap.size, 23, none⟩ = some (.int .u8 x3) ∧
        w1.rangeAt w.heap.size 0 hs.toList ∧ w1.rangeAt (w.heap.size + 1 + 1) 2 hs.toList ∧ Below w.heap.size w w1 := by
  obtain ⟨q0, q1, q2⟩ := three w hs #[.int .u32 v, .int .i64 0, .slice none 0 0] (rdCells (.iface 40 (.pointer (some ⟨w.heap.size + 1, 0, none⟩))) hs z16 (.slice none 0 0)) 22 42 35
  obtain ⟨r1, r22, r23, r24, r25, r42, r0, rH, rD⟩ := rd_at (.iface 40 (.pointer (some ⟨w.heap.size + 1, 0, none⟩))) (.slice none 0 0) hs z16 h24 rfl
  have L := link_ord (w.heap.size + 1) (w.heap.size + 1 + 1) v (.int .u8 x0) (.int .u8 x1) (.int .u8 x2) (.int .u8 x3) _ ((cell_of_row _ _ _ _ _ _ q2).trans r1) (cell_of_row _ _ _ _ _ _ q1) (cell_of_row _ _ _ _ _ _ q1) (cell_of_row _ _ _ _ _ _ q1)
    (free_row q1) (free_row q1) (by omega) ((cell_of_row _ _ _ _ _ _ q2).trans (r22.trans e0)) ((cell_of_row _ _ _ _ _ _ q2).trans (r23.trans e1)) ((cell_of_row _ _ _ _ _ _ q2).trans (r24.trans e2)) ((cell_of_row _ _ _ _ _ _ q2).trans (r25.trans e3)) (by simp [Value.oneCell'])
  refine L.mono ?_
  rintro e w1 ⟨rfl, g, cap, hg, c1, c2, g0, g1, g2, g3, hbel, hkeep⟩
  have b0 := (hkeep w.heap.size (by simp; omega) (by omega)).trans q0
  have b2 := (hkeep (w.heap.size + 1 + 1) (by simp) (by omega)).trans q2
  have hbel' : Below w.heap.size w w1 := (((((Below.refl w.heap.size w).alloc (Nat.le_refl _) _).alloc (by simp) _).alloc (by simp; omega) _).trans (hbel.mono (by omega)))
  refine ⟨rfl, g, cap, c1, c2, g0, g1, g2, g3, (cell_of_row _ _ _ _ _ _ b0).trans e0, (cell_of_row _ _ _ _ _ _ b0).trans e1, (cell_of_row _ _ _ _ _ _ b0).trans e2, (cell_of_row _ _ _ _ _ _ b0).trans e3, ?_, ?_, hbel'⟩
  · have := World.rangeAt_of_block b0 0 24
    rw [show hs.extract 0 (0 + 24) = hs by simp [← h24]] at this
    exact this
  · have := World.rangeAt_of_block b2 2 24
    rw [rH] at this
    exact this

theorem range_drewN {w : World} {b o : Nat} {cs : List Value} (h : w.rangeAt b o cs) (n : Nat) : (w.drewN n).rangeAt b o cs := fun j v hv => by simpa using h j v hv

theorem below_drews {B : Nat} {w w' : World} (h : Below B w w') (n m : Nat) : Below B w ((w'.drewN n).drewN m) := ⟨h.os, h.tape, h.output, h.size, h.block⟩

theorem low16 (v : Int) (h0 : 0 ≤ v) (h1 : v ≤ 4294967295) : (IntKind.u16.wrap v != IntKind.u16.wrap (bits BinOp.and IntKind.u32 v 65535)) = false := by
  have e : bits BinOp.and IntKind.u32 v 65535 = v % 65536 := by
    rw [u32_and v 65535 h0 (by omega) (by omega) (by omega)]
    have : v.toNat &&& 65535 = v.toNat % 65536 := Nat.and_two_pow_sub_one_eq_mod v.toNat 16
    show ((v.toNat &&& 65535 : Nat) : Int) = _
    rw [this]
    omega
  rw [e, IntKind.wrap_u16, IntKind.wrap_u16]
  simp

set_option maxHeartbeats 400000 in
set_option maxRecDepth 100000 in
theorem call_walk (hs : Array Value) (hoct : Octets hs 24) (v x0 x1 x2 x3 : Int) (w : World) (hv0 : 0 ≤ v) (hv1 : v ≤ 4294967295)
    (e0 : hs[20]? = some (.int .u8 x0)) (e1 : hs[21]? = some (.int .u8 x1)) (e2 : hs[22]? = some (.int .u8 x2)) (e3 : hs[23]? = some (.int .u8 x3)) :
    Calls Yba.prog 4 #[.agg hs, .int .u32 v] w fun e w' => e = .returned (.bool true) ∧ Below w.heap.size w w' := by
  have h24 := hoct.1
  have hlow := low16 v hv0 hv1
  have hb0 : ∀ o1, ((w.alloc (.cells hs 22)).alloc o1).heap[w.heap.size]? = some (.cells hs 22 (0, 0)) := fun o1 => by
    rw [Below.heap_alloc _ _ _ (by simp)]; exact heap_alloc_new _ _
  have HB0 : Hid (∀ o1, ((w.alloc (.cells hs 22)).alloc o1).heap[w.heap.size]? = some (.cells hs 22 (0, 0))) := hb0
  clear hb0
  go_enter Yba.func4, Yba.ntmps4
  go_wp2_with (first
    | (refine wpList_load_row rfl 22 (.tmp 2) rfl w.heap.size rfl 22 hs (0, 0) _ (HB0.out _) Yba.underlying22 rfl (by rw [h24]; exact Yba.size22) ?_)
    | (refine wpList_build2 rfl 35 1 2 (.tmp 12) (.tmp 13) rfl (.iface 40 (.pointer (some ⟨w.heap.size + 1, 0, none⟩))) (.agg hs) rfl rfl (rdCells (.iface 40 (.pointer (some ⟨w.heap.size + 1, 0, none⟩))) hs z16 (.slice none 0 0)) (built_two 40 (.pointer (some ⟨w.heap.size + 1, 0, none⟩)) hs h24) ?_))
  refine (link_at hs h24 v x0 x1 x2 x3 w e0 e1 e2 e3).mono ?_
  rintro e w1 ⟨rfl, g, cap, c1, c2, g0, g1, g2, g3, k0, k1, k2, k3, hr0, hr2, hbel⟩
  have HR0 : Hid (w1.rangeAt w.heap.size 0 hs.toList) := hr0
  have HR2 : Hid (w1.rangeAt (w.heap.size + 1 + 1) 2 hs.toList) := hr2
  have HBL : Hid (Below w.heap.size w w1) := hbel
  clear hr0 hr2 hbel HB0 e0 e1 e2 e3
  go_wp2_with fail
  go_quiet (fail)
  go_wp2_with fail
  refine wp_region_quiet_lit (by kernel_rfl) (by kernel_rfl) ?_
  go_big_quiet_step (fail)
  go_big_quiet_step (fail)
  go_big_quiet_step (fail)
  go_big_quiet_want
  refine quiet_load_mid 22 (.tmp 80) rfl (w.heap.size + 1 + 1) 2 rfl hs _ ?_ Yba.underlying22 rfl (by rw [h24]; exact Yba.size22) ?_
  · rintro _ ⟨n, rfl⟩
    exact range_drewN HR2.out n
  simp only [Act.put, List.setIfInBounds_toArray, List.set_cons_succ, List.set_cons_zero]
  go_big_quiet_on
  go_big_quiet_want
  refine quiet_load_mid 22 (.tmp 2) rfl w.heap.size 0 rfl hs _ ?_ Yba.underlying22 rfl (by rw [h24]; exact Yba.size22) ?_
  · rintro _ ⟨n, rfl⟩
    exact range_drewN HR0.out n
  simp only [Act.put, List.setIfInBounds_toArray, List.set_cons_succ, List.set_cons_zero]
  go_big_quiet_on
  have heq := fun w => eql_octets (P := Yba.prog) w 22 5 24 Yba.underlying22 Yba.underlying5 Yba.sizeOf5 hs hoct
  go_big_quiet_step (fail)
  go_big_quiet_step (fail)
  refine wpQuiet_nil ?_
  rintro _ ⟨nr, rfl⟩
  go_wp2
  go_ret
  exact ⟨rfl, below_drews HBL.out nq nr⟩
end Go.Proofs.Ybulkevkc

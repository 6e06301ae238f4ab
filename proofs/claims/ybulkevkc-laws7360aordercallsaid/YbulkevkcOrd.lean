import Derived.Test.YbulkevkcRows
import Derived.WalkKit
import Derived.ProofKit
import Derived.WalkSpells
import Derived.WalkLawsBesides
import Derived.Outline
namespace Go.Proofs.Ybulkevkc
open Go.RowKit

theorem Yba.info5 : (Yba.prog.info? 5).map (fun i => (i.zero, i.size, i.bytes)) = some (some (.int .u8 0), 1, 1) := by kernel_rfl

theorem cell_apart {w : World} {p q : Addr} {x : Value} (h : p.block ≠ q.block) : (w.setCell p x).cell? q = w.cell? q := World.cell?_setCell_other w p q x (fun e => h (by rw [e]))
theorem cell_off {w : World} {p q : Addr} {x : Value} (h : p.off ≠ q.off) : (w.setCell p x).cell? q = w.cell? q := World.cell?_setCell_other w p q x (fun e => h (by rw [e]))
theorem cell_put {w : World} {p : Addr} {x u : Value} (h : w.cell? p = some u) : (w.setCell p x).cell? p = some x := World.cell?_setCell_same w p x h

theorem own4 {w : World} {base : Nat} {v : Value} {a b c d : Value} (h : w.ownsRow base 5 1 v 4 [a, b, c, d]) :
    ∃ g cap cur, v = .slice (some ⟨g, 0, none⟩) 4 cap ∧ base ≤ g ∧ w.heap[g]? = some (.cells cur 5 (0, 0)) ∧ 4 ≤ cap ∧ cur.size = cap ∧ cur.toList.take 4 = [a, b, c, d] := by
  obtain ⟨_, h | ⟨g, cap, cur, hv, hg, hh, hc, _, hs, ht⟩⟩ := h
  · exact absurd h.2 (by decide)
  · exact ⟨g, cap, cur, hv, hg, hh, hc, by simpa using hs, by simpa using ht⟩

theorem cell_row {w : World} {g : Nat} {cur : Array Value} {j : Nat} {x : Value} (h : w.heap[g]? = some (.cells cur 5 (0, 0))) (hx : cur[j]? = some x) : w.cell? ⟨g, j, none⟩ = some x := by
  simp [World.cell?, h, hx]

theorem ord_end {w w1 : World} {bo g cap : Nat} {cur : Array Value} {a b c d : Value} (hbo : bo < w.heap.size) (hgb : w.heap.size ≤ g)
    (hg : (w.setCell ⟨bo, 1, none⟩ (.int .i64 1)).grownBy w1 (Value.slice none 0 0).ownBlock) (hcur : w1.heap[g]? = some (.cells cur 5 (0, 0))) (ht : cur.toList.take 4 = [a, b, c, d])
    (c1 : w1.cell? ⟨bo, 1, none⟩ = some (.int .i64 1)) (c2 : w1.cell? ⟨bo, 2, none⟩ = some (.slice none 0 0)) :
    ∃ g' cap', w.heap.size ≤ g' ∧ (w1.setCell ⟨bo, 2, none⟩ (.slice (some ⟨g, 0, none⟩) 4 cap)).cell? ⟨bo, 1, none⟩ = some (.int .i64 1) ∧ (w1.setCell ⟨bo, 2, none⟩ (.slice (some ⟨g, 0, none⟩) 4 cap)).cell? ⟨bo, 2, none⟩ = some (.slice (some ⟨g', 0, none⟩) 4 cap') ∧
      (w1.setCell ⟨bo, 2, none⟩ (.slice (some ⟨g, 0, none⟩) 4 cap)).cell? ⟨g', 0, none⟩ = some a ∧ (w1.setCell ⟨bo, 2, none⟩ (.slice (some ⟨g, 0, none⟩) 4 cap)).cell? ⟨g', 1, none⟩ = some b ∧
      (w1.setCell ⟨bo, 2, none⟩ (.slice (some ⟨g, 0, none⟩) 4 cap)).cell? ⟨g', 2, none⟩ = some c ∧ (w1.setCell ⟨bo, 2, none⟩ (.slice (some ⟨g, 0, none⟩) 4 cap)).cell? ⟨g', 3, none⟩ = some d ∧
      Below bo w (w1.setCell ⟨bo, 2, none⟩ (.slice (some ⟨g, 0, none⟩) 4 cap)) ∧ ∀ k, k < w.heap.size → k ≠ bo → (w1.setCell ⟨bo, 2, none⟩ (.slice (some ⟨g, 0, none⟩) 4 cap)).heap[k]? = w.heap[k]? := by
  have hne : bo ≠ g := by omega
  have e : ∀ j x, [a, b, c, d][j]? = some x → w1.cell? ⟨g, j, none⟩ = some x := by
    intro j x hx
    refine cell_row hcur ?_
    rw [← ht, List.getElem?_take] at hx
    split at hx
    · simpa using hx
    · cases hx
  have hk : ∀ k, k < w.heap.size → k ≠ bo → (w1.setCell ⟨bo, 2, none⟩ (.slice (some ⟨g, 0, none⟩) 4 cap)).heap[k]? = w.heap[k]? := by
    intro k h1 h2
    rw [Below.heap_setCell _ _ _ _ h2, hg.block k (by simpa using h1) (by simp [Value.ownBlock]), Below.heap_setCell _ _ _ _ h2]
  refine ⟨g, cap, hgb, (cell_off (by simp)).trans c1, cell_put c2, (cell_apart hne).trans (e 0 a rfl), (cell_apart hne).trans (e 1 b rfl), (cell_apart hne).trans (e 2 c rfl), (cell_apart hne).trans (e 3 d rfl), ?_, hk⟩
  exact ⟨hg.os, hg.tape, hg.output, by simpa [World.setCell] using hg.size, fun k h => hk k (by omega) (by omega)⟩

/-- The stand-in order's Uint32: it counts the call, keeps a copy of the four octets, answers v. -/
theorem ord_uint32 (bo : Nat) (v : Int) (b : Nat) (off : Nat) (n : Nat) (b0 b1 b2 b3 : Value) (w : World)
    (hv : w.cell? ⟨bo, 0, none⟩ = some (.int .u32 v)) (hc : w.cell? ⟨bo, 1, none⟩ = some (.int .i64 0)) (hg : w.cell? ⟨bo, 2, none⟩ = some (.slice none 0 0))
    (f1 : w.frozen? ⟨bo, 1, none⟩ = false) (f2 : w.frozen? ⟨bo, 2, none⟩ = false)
    (hne : b ≠ bo)
    (k0 : w.cell? ⟨b, off, none⟩ = some b0) (k1 : w.cell? ⟨b, off + 1, none⟩ = some b1) (k2 : w.cell? ⟨b, off + 2, none⟩ = some b2) (k3 : w.cell? ⟨b, off + 3, none⟩ = some b3)
    (o1 : ∀ u ∈ [b0, b1, b2, b3], u.oneCell' = true) :
    Calls Yba.prog 44 #[.pointer (some ⟨bo, 0, none⟩), .slice (some ⟨b, off, none⟩) 4 n] w fun e w' => e = .returned (.int .u32 v) ∧
      ∃ g cap, w.heap.size ≤ g ∧ w'.cell? ⟨bo, 1, none⟩ = some (.int .i64 1) ∧ w'.cell? ⟨bo, 2, none⟩ = some (.slice (some ⟨g, 0, none⟩) 4 cap) ∧ w'.cell? ⟨g, 0, none⟩ = some b0 ∧ w'.cell? ⟨g, 1, none⟩ = some b1 ∧
        w'.cell? ⟨g, 2, none⟩ = some b2 ∧ w'.cell? ⟨g, 3, none⟩ = some b3 ∧ Below bo w w' ∧ ∀ k, k < w.heap.size → k ≠ bo → w'.heap[k]? = w.heap[k]? := by
  obtain ⟨i0, hi, hz0, hz1, hz2⟩ := info_parts Yba.info5
  have hbo : bo < w.heap.size := World.block_lt_of_cell? w _ hv
  go_enter Yba.func44, Yba.ntmps44
  go_wp2_with (at_builtin; refine wpList_append_own _ rfl _ _ 24 rfl w.heap.size 5 i0 (.int .u8 0) 1 1 Yba.underlying24 hi hz0 hz1 hz2 rfl (by decide) _ _ _ rfl (World.ownsRow_nil _ _ _ _) ⟨b, off, none⟩ 4 n [b0, b1, b2, b3] rfl rfl ?c1 ?c2 ?c3 ?c4 ?c5 ?_)
  case c1 =>
    intro j u hj
    match j, hj with
    | 0, hj => simp at hj; subst hj; exact (cell_apart (fun h => hne h.symm)).trans (by simpa [Addr.add] using k0)
    | 1, hj => simp at hj; subst hj; exact (cell_apart (fun h => hne h.symm)).trans (by simpa [Addr.add] using k1)
    | 2, hj => simp at hj; subst hj; exact (cell_apart (fun h => hne h.symm)).trans (by simpa [Addr.add] using k2)
    | 3, hj => simp at hj; subst hj; exact (cell_apart (fun h => hne h.symm)).trans (by simpa [Addr.add] using k3)
  case c2 => exact o1
  case c3 => decide
  case c4 => decide
  case c5 => simp
  intro v' w1 hown' hgrow _
  obtain ⟨g, cap, cur, hv', hgb, hcur, hcap, hsz, ht⟩ := own4 hown'
  rw [hv']
  have c0 : w1.cell? ⟨bo, 0, none⟩ = some (.int .u32 v) := hgrow.cell ((cell_off (by simp)).trans hv) (by simp [Value.ownBlock])
  have c1 : w1.cell? ⟨bo, 1, none⟩ = some (.int .i64 1) := hgrow.cell (cell_put hc) (by simp [Value.ownBlock])
  have c2 : w1.cell? ⟨bo, 2, none⟩ = some (.slice none 0 0) := hgrow.cell ((cell_off (by simp)).trans hg) (by simp [Value.ownBlock])
  have e2 : w1.frozen? ⟨bo, 2, none⟩ = false := by
    rw [World.frozen?_of_block (w := w.setCell ⟨bo, 1, none⟩ (.int .i64 1)) (hgrow.block bo (by simpa using hbo) (by simp [Value.ownBlock]))]
    simpa using f2
  have HG : Hid (World.grownBy _ _ _) := hgrow
  have HC : Hid (w1.heap[g]? = _) := hcur
  clear hgrow hcur hown'
  go_wp2
  go_ret
  refine ⟨rfl, ?_⟩
  exact ord_end hbo hgb HG.out HC.out ht c1 c2
end Go.Proofs.Ybulkevkc

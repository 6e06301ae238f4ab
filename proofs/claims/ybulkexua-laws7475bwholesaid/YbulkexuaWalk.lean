import Derived.Test.YbulkexuaPivot
set_option linter.unusedVariables false
namespace Go.Proofs.Ybulkexua
open Go.RowKit

/-- The struct S, the slice of rows tb, the basis B. -/
structure Tab (S tb B n wd : Nat) (T : Nat → Nat) (w : World) : Prop where
  s0 : w.cell? ⟨S, 0, none⟩ = some (.slice (some ⟨tb, 0, none⟩) n n)
  s1 : w.cell? ⟨S, 1, none⟩ = some (.slice (some ⟨B, 0, none⟩) n n)
  rows : ∀ i, i < n → w.cell? ⟨tb, i, none⟩ = some (.slice (some ⟨T i, 0, none⟩) wd wd)
  bas : ∃ f, w.rowIs B 3 n f
  inj : ∀ i i', i < n → i' < n → T i = T i' → i = i'
  nS : ∀ i, i < n → S ≠ T i
  nt : ∀ i, i < n → tb ≠ T i
  nB : ∀ i, i < n → B ≠ T i
theorem Tab.mem {S tb B n wd : Nat} {T : Nat → Nat} {w wr : World} {C : Nat → Nat → Nat} (h : Tab S tb B n wd T w) (m : Mem T n wd w wr C) : Tab S tb B n wd T wr :=
  ⟨(World.cell?_of_block (w := w) (m.keep S h.nS)).trans h.s0, (World.cell?_of_block (w := w) (m.keep S h.nS)).trans h.s1, fun i hi => (World.cell?_of_block (w := w) (m.keep tb h.nt)).trans (h.rows i hi),
   by obtain ⟨f, hf⟩ := h.bas; exact ⟨f, hf.of_block (m.keep B h.nB)⟩, h.inj, h.nS, h.nt, h.nB⟩

theorem store_at {T : Nat → Nat} {n wd : Nat} {w wr : World} {C : Nat → Nat → Nat} (h : Mem T n wd w wr C) {i j : Nat} (hi : i < n) (hj : j < wd) (v : Nat) :
    (store ⟨T i, j, none⟩ (.float .f64 v)).run Yba.prog wr = .ok () (wr.setCell ⟨T i, j, none⟩ (.float .f64 v)) := by
  have h1 := (h.rows i hi).cell hj
  have h2 := (h.rows i hi).frozen j
  rw [run_store Yba.prog wr _ _ _ rfl, h1, h2]
  rfl

set_option maxRecDepth 100000 in
theorem pivot_calls (S tb B n wd o c : Nat) (T : Nat → Nat) (V : Nat → Nat → Nat) (w : World) (Bo : Int) (hn : (n : Int) ≤ Bo) (hw : (wd : Int) ≤ Bo) (hBo : Bo ≤ 65536) (ho : o < n) (hc : c < wd) (hT : Tab S tb B n wd T w) (hM : Mem T n wd w w V) :
    Calls Yba.prog 4 #[.pointer (some ⟨S, 0, none⟩), .int .i64 o, .int .i64 c] w fun e w' => e = .returned (.tuple #[]) ∧ ∃ C w1, Mem T n wd w w1 C ∧ P2 V C wd o c n ∧ w' = w1.setCell ⟨B, o, none⟩ (.int .i64 c) := by
  have hq := fun (w : World) (x y : Nat) => run_fop .quo (.inl rfl) 26 x y w
  have hq2 := fun (w : World) (x y : Nat) => run_fop .mul (.inr (.inl rfl)) 26 x y w
  have hq3 := fun (w : World) (x y : Nat) => run_fop .sub (.inr (.inr rfl)) 26 x y w
  have HT : Hid (Tab S tb B n wd T w) := hT
  have HM : Hid (Mem T n wd w w V) := hM
  have s0 := hT.s0
  have r0 := hT.rows o ho
  have v0 := (hM.rows o ho).cell hc
  clear hT hM
  go_enter Yba.func4, Yba.ntmps4
  go_wp2
  clear s0 r0 v0
  go_loopg [26] wd (fun g k wr => ∃ j : Nat, j ≤ wd ∧ wd ≤ j + g ∧ k = .int .i64 j ∧ ∃ C, Mem T n wd w wr C ∧ P1 V C o c j)
  case atStart => exact ⟨0, by omega, by omega, rfl, V, HM.out, ⟨fun j' h => by omega, fun _ _ => rfl, fun _ _ => rfl⟩⟩
  case round =>
    obtain ⟨j, hj, hg, rfl, C, hm, hp⟩ := hrel
    have Hm : Hid (Mem T n wd w wr C) := hm
    have Hp : Hid (P1 V C o c j) := hp
    by_cases hlt : j < wd
    · have e1 := (hm.rows o ho).cell hlt
      rw [hp.todo j (Nat.le_refl _)] at e1
      have e2 := (hm.rows o ho).frozen j
      have e3 := fun (v : Nat) (m : Nat) => store_at (hm.draws m) ho hlt v
      clear hm hp
      obtain ⟨gO, hgO⟩ : ∃ gO, gk = gO + 1 := ⟨gk - 1, by omega⟩
      subst hgO
      go_wp2
      go_roundg gO
      case measure => omega
      case rel => exact ⟨j + 1, by omega, by omega, by go_num, _, ((Hm.out.draws _).set HT.out.inj ho j _), Hp.out.step (res_fop .quo _ _ _)⟩
    · have hP2 : Hid (P2 V C wd o c 0) := hp.end (by omega)
      have hTr : Hid (Tab S tb B n wd T wr) := HT.out.mem hm
      have s0 := hTr.out.s0
      clear hm hp
      go_wp2
      clear s0
      go_loopg [42] n (fun g k wq => ∃ i : Nat, i ≤ n ∧ n ≤ i + g ∧ k = .int .i64 i ∧ ∃ C, Mem T n wd w wq C ∧ P2 V C wd o c i)
      case atStart => exact ⟨0, by omega, by omega, rfl, C, Hm.out, hP2.out⟩
      case round =>
        clear hP2 hTr Hm Hp
        obtain ⟨i, hi, hg, rfl, C, hm, hp⟩ := hrel
        have Hm : Hid (Mem T n wd w wr C) := hm
        have Hp : Hid (P2 V C wd o c i) := hp
        have hTr : Hid (Tab S tb B n wd T wr) := HT.out.mem hm
        by_cases hlt : i < n
        · have r0 := hTr.out.rows i hlt
          obtain ⟨gO, hgO⟩ : ∃ gO, gk = gO + 1 := ⟨gk - 1, by omega⟩
          subst hgO
          by_cases hio : i = o
          · subst hio
            clear hm hp
            go_wp2
            go_roundg gO
            case measure => omega
            case rel => exact ⟨i + 1, by omega, by omega, by go_num, C, Hm.out, Hp.out.same⟩
          · have e1 := (hm.rows i hlt).cell hc
            rw [hp.todo i (Nat.le_refl _) hio] at e1
            have hio' : ¬ (i : Int) = (o : Int) := by omega
            cases hz : isZ (V i c) with
            | true =>
              have hz' := hz
              unfold isZ at hz'
              clear hm hp
              go_wp2
              go_roundg gO
              case measure => omega
              case rel => exact ⟨i + 1, by omega, by omega, by go_num, C, Hm.out, Hp.out.zero hio hz⟩
            | false =>
              have hz' := hz
              unfold isZ at hz'
              have hP3 : Hid (P3 V C wd o c i 0) := hp.three hio hz
              clear hm hp
              go_wp2
              clear hz' e1 r0
              go_loopg [63] wd (fun g k wq => ∃ j : Nat, j ≤ wd ∧ wd ≤ j + g ∧ k = .int .i64 j ∧ ∃ C, Mem T n wd w wq C ∧ P3 V C wd o c i j)
              case atStart => exact ⟨0, by omega, by omega, rfl, C, Hm.out, hP3.out⟩
              case round =>
                clear hP3 hTr Hm Hp
                obtain ⟨j, hj, hg, rfl, C, hm, hp⟩ := hrel
                have Hm : Hid (Mem T n wd w wr C) := hm
                have Hp : Hid (P3 V C wd o c i j) := hp
                by_cases hjlt : j < wd
                · have e1 := (hm.rows o ho).cell hjlt
                  have e2 := (hm.rows i hlt).cell hjlt
                  rw [hp.rest j (Nat.le_refl _)] at e2
                  have e3 := (hm.rows i hlt).frozen j
                  have e4 := fun (v : Nat) (m : Nat) => store_at (hm.draws m) hlt hjlt v
                  obtain ⟨gI, hgI⟩ : ∃ gI, gk = gI + 1 := ⟨gk - 1, by omega⟩
                  subst hgI
                  clear hm hp
                  go_wp2
                  go_region
                  go_wp2
                  go_roundg gI
                  case measure => omega
                  case rel => exact ⟨j + 1, by omega, by omega, by go_num, _, ((Hm.out.draws _).set HT.out.inj hlt j _), Hp.out.step (res_fop .mul _ _ _) (res_fop .sub _ _ _)⟩
                · have hP2 : Hid (P2 V C wd o c (i + 1)) := hp.end (by omega)
                  clear hm hp
                  go_wp2
                  go_roundg gO
                  case measure => omega
                  case rel => exact ⟨i + 1, by omega, by omega, by go_num, C, Hm.out, hP2.out⟩
        · clear hm hp
          have s1 := hTr.out.s1
          obtain ⟨f, hf⟩ := hTr.out.bas
          have b1 := hf.cell ho
          have b2 := hf.frozen o
          clear hf
          go_wp2
          go_end0
          refine ⟨rfl, C, wr, Hm.out, ?_, rfl⟩
          obtain rfl : i = n := by omega
          exact Hp.out
end Go.Proofs.Ybulkexua

import Derived.Test.YbulkevleBuild
set_option linter.unusedVariables false
namespace Go.Proofs.Ybulkevle

/-! ### The plain law: no Go in sight -/
structure St where
  l : Int
  i : Int
  s : Int
  p : Int
def St.step (x : St) : St := ⟨x.l + slp x.s, idl x.i, slq x.i x.s, if 10000000 < x.l + slp x.s - x.p then x.l + slp x.s else x.p⟩
/-- No wake-up is due before t. -/
def St.done (t : Int) (x : St) : Prop := t ≤ x.l + slp x.s
def run (t : Int) : Nat → St → St
  | 0, x => x
  | n + 1, x => if t ≤ x.l + slp x.s then x else run t n x.step

theorem run_done {t : Int} {x : St} (h : x.done t) (n : Nat) : run t n x = x := by
  cases n with
  | zero => rfl
  | succ n => show (if t ≤ x.l + slp x.s then x else run t n x.step) = x; exact if_pos h
theorem run_go {t : Int} {x : St} (h : ¬ x.done t) (n : Nat) : run t (n + 1) x = run t n x.step := by
  show (if t ≤ x.l + slp x.s then x else run t n x.step) = _; exact if_neg h
theorem run_add (t : Int) (n : Nat) : ∀ (m : Nat) (x : St), run t (n + m) x = run t m (run t n x) := by
  induction n with
  | zero => intro m x; simp [run]
  | succ n ih =>
    intro m x
    rw [show n + 1 + m = (n + m) + 1 by omega]
    by_cases h : x.done t
    · rw [run_done h, run_done h, run_done h]
    · rw [run_go h, run_go h, ih]
theorem run_one {t : Int} {x : St} (h : ¬ x.done t) : run t 1 x = x.step := run_go h 0
theorem run_succ {t : Int} {x y : St} {n : Nat} (h : run t n x = y) (hd : ¬ y.done t) : run t (n + 1) x = y.step := by
  rw [run_add, h, run_one hd]
theorem run_unique {t : Int} {x : St} {n m : Nat} (h : (run t n x).done t) (h' : (run t m x).done t) : run t n x = run t m x := by
  rcases Nat.le_total n m with hle | hle
  · obtain ⟨d, rfl⟩ := Nat.exists_eq_add_of_le hle
    rw [run_add, run_done h]
  · obtain ⟨d, rfl⟩ := Nat.exists_eq_add_of_le hle
    rw [run_add, run_done h']

/-- What holds of every state on the way: base: the latest wake-up at the start. -/
structure Ok (base : Int) (x : St) : Prop where
  inv : Inv x.l x.i x.s
  lo : base ≤ x.l
  hi : x.l ≤ base + 608999999
  plo : base - 50000000 ≤ x.p
  phi : x.p ≤ x.l
theorem Ok.step {base t : Int} {x : St} (h : Ok base x) (ht : t ≤ base + 608999999) (ht' : t ≤ 9223372036854775807) (hd : ¬ x.done t) : Ok base x.step := by
  unfold St.done at hd
  have hs := slp_bd h.inv.2.2.2.2.1 h.inv.2.2.2.2.2.1
  have h1 := h.lo
  have h2 := h.plo
  have h3 := h.phi
  refine ⟨inv_idle h.inv (by omega), ?_, ?_, ?_, ?_⟩
  · simp only [St.step]; omega
  · simp only [St.step]; omega
  · simp only [St.step]; split <;> omega
  · simp only [St.step]; split <;> omega
theorem ok_run {base t : Int} (ht : t ≤ base + 608999999) (ht' : t ≤ 9223372036854775807) : ∀ (n : Nat) (x : St), Ok base x → Ok base (run t n x) := by
  intro n
  induction n with
  | zero => intro x h; exact h
  | succ n ih =>
    intro x h
    by_cases hd : x.done t
    · rw [run_done hd]; exact h
    · rw [run_go hd]; exact ih _ (h.step ht ht' hd)
theorem run_far {base t : Int} (ht : t ≤ base + 608999999) (ht' : t ≤ 9223372036854775807) : ∀ (n : Nat) (x : St), Ok base x → (run t n x).done t ∨ x.l + 20000 * n ≤ (run t n x).l := by
  intro n
  induction n with
  | zero => intro x h; right; simp [run]
  | succ n ih =>
    intro x h
    by_cases hd : x.done t
    · rw [run_done hd]; left; exact hd
    · rw [run_go hd]
      rcases ih _ (h.step ht ht' hd) with h1 | h1
      · left; exact h1
      · right
        have hs := slp_bd h.inv.2.2.2.2.1 h.inv.2.2.2.2.2.1
        have : x.step.l = x.l + slp x.s := rfl
        rw [this] at h1
        omega
theorem run_ends {base t : Int} {x : St} (ht : t ≤ base + 608999999) (ht' : t ≤ 9223372036854775807) (h : Ok base x) : (run t 65536 x).done t := by
  rcases run_far ht ht' 65536 x h with h1 | h1
  · exact h1
  · have h2 := (ok_run ht ht' 65536 x h).hi
    have h3 := h.lo
    omega

/-! ### The jump: k steps of 10ms -/
/-- The last poll behind j steps of 10ms from l, the poll before them at p. -/
def poll (l p : Int) (j : Nat) : Int :=
  if p < l then (if j = 0 then p else l + 10000000 + ((j - 1) / 2 : Nat) * 20000000) else (if j ≤ 1 then p else l + 20000000 + ((j - 2) / 2 : Nat) * 20000000)
theorem poll_a0 {l p : Int} (h : p < l) : poll l p 0 = p := by unfold poll; rw [if_pos h, if_pos rfl]
theorem poll_a1 {l p : Int} (h : p < l) (m : Nat) : poll l p (2 * m + 1) = l + 10000000 + m * 20000000 := by
  unfold poll; rw [if_pos h, if_neg (by omega : ¬ 2 * m + 1 = 0), show (2 * m + 1 - 1) / 2 = m by omega]
theorem poll_a2 {l p : Int} (h : p < l) (m : Nat) : poll l p (2 * m + 2) = l + 10000000 + m * 20000000 := by
  unfold poll; rw [if_pos h, if_neg (by omega : ¬ 2 * m + 2 = 0), show (2 * m + 2 - 1) / 2 = m by omega]
theorem poll_b0 {l : Int} : poll l l 0 = l := by unfold poll; rw [if_neg (by omega), if_pos (by omega : 0 ≤ 1)]
theorem poll_b1 {l : Int} : poll l l 1 = l := by unfold poll; rw [if_neg (by omega), if_pos (by omega : 1 ≤ 1)]
theorem poll_b2 {l : Int} (m : Nat) : poll l l (2 * m + 2) = l + 20000000 + m * 20000000 := by
  unfold poll; rw [if_neg (by omega), if_neg (by omega : ¬ 2 * m + 2 ≤ 1), show (2 * m + 2 - 2) / 2 = m by omega]
theorem poll_b3 {l : Int} (m : Nat) : poll l l (2 * m + 3) = l + 20000000 + m * 20000000 := by
  unfold poll; rw [if_neg (by omega), if_neg (by omega : ¬ 2 * m + 3 ≤ 1), show (2 * m + 3 - 2) / 2 = m by omega]
theorem poll_step {l p : Int} (hp : p ≤ l) (j : Nat) : (if 10000000 < l + 10000000 * (j : Int) + 10000000 - poll l p j then l + 10000000 * (j : Int) + 10000000 else poll l p j) = poll l p (j + 1) := by
  by_cases h : p < l
  · by_cases h0 : j = 0
    · subst h0
      rw [poll_a0 h, show 0 + 1 = 2 * 0 + 1 from rfl, poll_a1 h 0]
      rw [if_pos (by omega)]
      omega
    · obtain ⟨m, hm | hm⟩ : ∃ m, j = 2 * m + 1 ∨ j = 2 * m + 2 := ⟨(j - 1) / 2, by omega⟩
      · subst hm
        rw [poll_a1 h m, show 2 * m + 1 + 1 = 2 * m + 2 from rfl, poll_a2 h m, if_neg (by omega)]
      · subst hm
        rw [poll_a2 h m, show 2 * m + 2 + 1 = 2 * (m + 1) + 1 from by omega, poll_a1 h (m + 1), if_pos (by omega)]
        omega
  · obtain rfl : p = l := by omega
    by_cases h0 : j = 0
    · subst h0
      rw [poll_b0, show 0 + 1 = 1 from rfl, poll_b1, if_neg (by omega)]
    · by_cases h1 : j = 1
      · subst h1
        rw [poll_b1, show 1 + 1 = 2 * 0 + 2 from rfl, poll_b2 0, if_pos (by omega)]
        omega
      · obtain ⟨m, hm | hm⟩ : ∃ m, j = 2 * m + 2 ∨ j = 2 * m + 3 := ⟨(j - 2) / 2, by omega⟩
        · subst hm
          rw [poll_b2 m, show 2 * m + 2 + 1 = 2 * m + 3 from rfl, poll_b3 m, if_neg (by omega)]
        · subst hm
          rw [poll_b3 m, show 2 * m + 3 + 1 = 2 * (m + 1) + 2 from by omega, poll_b2 (m + 1), if_pos (by omega)]
          omega
theorem slp_top : slp 10000000 = 10000000 := by decide
theorem step_top (l p : Int) : (⟨l, 51, 10000000, p⟩ : St).step = ⟨l + 10000000, 51, 10000000, if 10000000 < l + 10000000 - p then l + 10000000 else p⟩ := by
  unfold St.step
  simp only [slp_top]
  rw [show idl 51 = 51 by decide, show slq 51 10000000 = 10000000 by decide]
theorem run_top {t l p : Int} (hp : p ≤ l) : ∀ (k : Nat), l + 10000000 * (k : Int) < t → run t k ⟨l, 51, 10000000, p⟩ = ⟨l + 10000000 * (k : Int), 51, 10000000, poll l p k⟩ := by
  intro k
  induction k with
  | zero =>
    intro _
    simp [run, poll]
  | succ k ih =>
    intro h
    have h1 := ih (by omega)
    rw [run_succ h1 (by unfold St.done; simp only [slp_top]; omega), step_top, poll_step hp]
    congr 1
    omega
end Go.Proofs.Ybulkevle

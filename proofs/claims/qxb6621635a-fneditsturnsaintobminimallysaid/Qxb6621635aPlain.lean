/- Plain mathematics of seat b6621635a: longest common subsequences by rows, edit paths, the furthest-reaching table. No Go in sight. -/
import Derived.Test.Qxb6621635aRows
namespace Go.Proofs.Qxb6621635a

/-! ### the table of longest common subsequences, row by row -/
def lrow (ai : Int) (b : Nat → Int) (prev : Nat → Nat) : Nat → Nat
  | 0 => 0
  | j + 1 => if ai = b j then prev j + 1 else max (prev (j + 1)) (lrow ai b prev j)
def lcs (a b : Nat → Int) : Nat → Nat → Nat
  | 0 => fun _ => 0
  | i + 1 => lrow (a i) b (lcs a b i)

theorem lcs_zero_l (a b : Nat → Int) (j : Nat) : lcs a b 0 j = 0 := rfl
theorem lcs_zero_r (a b : Nat → Int) (i : Nat) : lcs a b i 0 = 0 := by cases i <;> rfl
theorem lcs_succ (a b : Nat → Int) (i j : Nat) : lcs a b (i + 1) (j + 1) = if a i = b j then lcs a b i j + 1 else max (lcs a b i (j + 1)) (lcs a b (i + 1) j) := rfl
theorem lcs_eq {a b : Nat → Int} {i j : Nat} (h : a i = b j) : lcs a b (i + 1) (j + 1) = lcs a b i j + 1 := by rw [lcs_succ, if_pos h]
theorem lcs_ne {a b : Nat → Int} {i j : Nat} (h : ¬ a i = b j) : lcs a b (i + 1) (j + 1) = max (lcs a b i (j + 1)) (lcs a b (i + 1) j) := by rw [lcs_succ, if_neg h]

theorem lcs_l_of_r (a b : Nat → Int) (i : Nat) (R : ∀ j, lcs a b i j ≤ lcs a b i (j + 1) ∧ lcs a b i (j + 1) ≤ lcs a b i j + 1) :
    ∀ j, lcs a b i j ≤ lcs a b (i + 1) j ∧ lcs a b (i + 1) j ≤ lcs a b i j + 1 := by
  intro j
  induction j with
  | zero => rw [lcs_zero_r, lcs_zero_r]; omega
  | succ j ih =>
    have r := R j
    by_cases h : a i = b j
    · rw [lcs_eq h]; omega
    · rw [lcs_ne h]; omega
theorem lcs_r (a b : Nat → Int) (i : Nat) : ∀ j, lcs a b i j ≤ lcs a b i (j + 1) ∧ lcs a b i (j + 1) ≤ lcs a b i j + 1 := by
  induction i with
  | zero => intro j; rw [lcs_zero_l, lcs_zero_l]; omega
  | succ i ih =>
    intro j
    have l := lcs_l_of_r a b i ih j
    have r := ih j
    by_cases h : a i = b j
    · rw [lcs_eq h]; omega
    · rw [lcs_ne h]; omega
theorem lcs_l (a b : Nat → Int) (i j : Nat) : lcs a b i j ≤ lcs a b (i + 1) j ∧ lcs a b (i + 1) j ≤ lcs a b i j + 1 := lcs_l_of_r a b i (lcs_r a b i) j
theorem lcs_diag (a b : Nat → Int) (i j : Nat) : lcs a b i j ≤ lcs a b (i + 1) (j + 1) ∧ lcs a b (i + 1) (j + 1) ≤ lcs a b i j + 1 := by
  have l := lcs_l a b i j
  have l1 := lcs_l a b i (j + 1)
  have r := lcs_r a b i j
  by_cases h : a i = b j
  · rw [lcs_eq h]; omega
  · rw [lcs_ne h]; have r1 := lcs_r a b (i + 1) j; omega
theorem lcs_le_r (a b : Nat → Int) (i j k : Nat) : lcs a b i j ≤ lcs a b i (j + k) := by
  induction k with
  | zero => exact Nat.le_refl _
  | succ k ih => exact Nat.le_trans ih (lcs_r a b i (j + k)).1
theorem lcs_le_l (a b : Nat → Int) (i j k : Nat) : lcs a b i j ≤ lcs a b (i + k) j := by
  induction k with
  | zero => exact Nat.le_refl _
  | succ k ih => exact Nat.le_trans ih (lcs_l a b (i + k) j).1
theorem lcs_bd (a b : Nat → Int) (i j : Nat) : lcs a b i j ≤ j := by
  induction j with
  | zero => rw [lcs_zero_r]; omega
  | succ j ih => have := (lcs_r a b i j).2; omega

/-! ### suffixes -/
/-- The longest common subsequence of what is left of a from x on and of b from y on. -/
def sfx (a b : Nat → Int) (n m x y : Nat) : Nat := lcs (fun t => a (n - 1 - t)) (fun t => b (m - 1 - t)) (n - x) (m - y)

section
variable {a b : Nat → Int} {n m : Nat}
theorem sfx_end_l (y : Nat) : sfx a b n m n y = 0 := by unfold sfx; rw [Nat.sub_self]; rfl
theorem sfx_end_r (x : Nat) : sfx a b n m x m = 0 := by unfold sfx; rw [Nat.sub_self, lcs_zero_r]
theorem sfx_eq {x y : Nat} (hx : x < n) (hy : y < m) (h : a x = b y) : sfx a b n m x y = sfx a b n m (x + 1) (y + 1) + 1 := by
  unfold sfx
  rw [show n - x = (n - (x + 1)) + 1 by omega, show m - y = (m - (y + 1)) + 1 by omega]
  refine lcs_eq ?_
  show a (n - 1 - (n - (x + 1))) = b (m - 1 - (m - (y + 1)))
  rw [show n - 1 - (n - (x + 1)) = x by omega, show m - 1 - (m - (y + 1)) = y by omega, h]
theorem sfx_ne {x y : Nat} (hx : x < n) (hy : y < m) (h : ¬ a x = b y) : sfx a b n m x y = max (sfx a b n m (x + 1) y) (sfx a b n m x (y + 1)) := by
  unfold sfx
  rw [show n - x = (n - (x + 1)) + 1 by omega, show m - y = (m - (y + 1)) + 1 by omega]
  refine lcs_ne ?_
  show ¬ a (n - 1 - (n - (x + 1))) = b (m - 1 - (m - (y + 1)))
  rw [show n - 1 - (n - (x + 1)) = x by omega, show m - 1 - (m - (y + 1)) = y by omega]
  exact h
theorem sfx_diag {x y : Nat} (hx : x < n) (hy : y < m) : sfx a b n m x y ≤ sfx a b n m (x + 1) (y + 1) + 1 := by
  unfold sfx
  rw [show n - x = (n - (x + 1)) + 1 by omega, show m - y = (m - (y + 1)) + 1 by omega]
  exact (lcs_diag _ _ _ _).2
theorem sfx_diags {x y : Nat} (t : Nat) (hx : x + t ≤ n) (hy : y + t ≤ m) : sfx a b n m x y ≤ sfx a b n m (x + t) (y + t) + t := by
  induction t with
  | zero => exact Nat.le_refl _
  | succ t ih =>
    have h := sfx_diag (a := a) (b := b) (n := n) (m := m) (x := x + t) (y := y + t) (by omega) (by omega)
    have := ih (by omega) (by omega)
    simp only [Nat.add_assoc] at h this ⊢
    omega
theorem sfx_le_l (x y t : Nat) (hx : x + t ≤ n) : sfx a b n m (x + t) y ≤ sfx a b n m x y := by
  unfold sfx
  rw [show n - x = (n - (x + t)) + t by omega]
  exact lcs_le_l _ _ _ _ _
theorem sfx_le_r (x y t : Nat) (hy : y + t ≤ m) : sfx a b n m x (y + t) ≤ sfx a b n m x y := by
  unfold sfx
  rw [show m - y = (m - (y + t)) + t by omega]
  exact lcs_le_r _ _ _ _ _

theorem lcs_sfx (s : Nat) : ∀ i j, i + j = s → i ≤ n → j ≤ m → lcs a b i j + sfx a b n m i j ≤ sfx a b n m 0 0 := by
  induction s using Nat.strongRecOn with
  | ind s ih =>
    intro i j hs hi hj
    match i, j with
    | 0, j =>
      rw [lcs_zero_l]
      have := sfx_le_r (a := a) (b := b) (n := n) (m := m) 0 0 j (by omega)
      simp only [Nat.zero_add] at this ⊢; exact this
    | i + 1, 0 =>
      rw [lcs_zero_r]
      have := sfx_le_l (a := a) (b := b) (n := n) (m := m) 0 0 (i + 1) (by omega)
      simp only [Nat.zero_add] at this ⊢; exact this
    | i + 1, j + 1 =>
      by_cases h : a i = b j
      · have h1 := ih (i + j) (by omega) i j rfl (by omega) (by omega)
        rw [sfx_eq (by omega) (by omega) h] at h1
        rw [lcs_eq h]; omega
      · rw [lcs_ne h]
        have h1 := ih (i + (j + 1)) (by omega) i (j + 1) rfl (by omega) (by omega)
        have h2 := ih (i + 1 + j) (by omega) (i + 1) j rfl (by omega) (by omega)
        have s1 := sfx_le_l (a := a) (b := b) (n := n) (m := m) i (j + 1) 1 (by omega)
        have s2 := sfx_le_r (a := a) (b := b) (n := n) (m := m) (i + 1) j 1 (by omega)
        omega
theorem lcs_le_sfx : lcs a b n m ≤ sfx a b n m 0 0 := by
  have := lcs_sfx (a := a) (b := b) (n := n) (m := m) (n + m) n m rfl (Nat.le_refl _) (Nat.le_refl _)
  omega
end

/-! ### paths of moves: 0 keeps, 1 drops, 2 adds -/
/-- The moves lead from (i, j) to (n, m) with c drops and adds. -/
def okPath (a b : Nat → Int) (n m : Nat) : List Int → Nat → Nat → Nat → Prop
  | [], i, j, c => i = n ∧ j = m ∧ c = 0
  | v :: l, i, j, c =>
    (v = 0 ∧ i < n ∧ j < m ∧ a i = b j ∧ okPath a b n m l (i + 1) (j + 1) c) ∨
    (v = 1 ∧ i < n ∧ ∃ c', c = c' + 1 ∧ okPath a b n m l (i + 1) j c') ∨
    (v = 2 ∧ j < m ∧ ∃ c', c = c' + 1 ∧ okPath a b n m l i (j + 1) c')

theorem okPath_lcs {a b : Nat → Int} {n m : Nat} : ∀ (l : List Int) (i j c : Nat), okPath a b n m l i j c → i ≤ n ∧ j ≤ m ∧ (n - i) + (m - j) + 2 * lcs a b i j ≤ c + 2 * lcs a b n m := by
  intro l
  induction l with
  | nil => intro i j c h; obtain ⟨rfl, rfl, rfl⟩ := h; omega
  | cons v l ih =>
    intro i j c h
    rcases h with ⟨_, h1, h2, h3, h4⟩ | ⟨_, h1, c', rfl, h4⟩ | ⟨_, h1, c', rfl, h4⟩
    · have := ih _ _ _ h4; rw [lcs_eq h3] at this; omega
    · have := ih _ _ _ h4; have l := (lcs_l a b i j).1; omega
    · have := ih _ _ _ h4; have l := (lcs_r a b i j).1; omega
theorem okPath_len {a b : Nat → Int} {n m : Nat} : ∀ (l : List Int) (i j c : Nat), okPath a b n m l i j c → l.length ≤ (n - i) + (m - j) := by
  intro l
  induction l with
  | nil => intro i j c h; simp
  | cons v l ih =>
    intro i j c h
    rcases h with ⟨_, h1, h2, h3, h4⟩ | ⟨_, h1, c', rfl, h4⟩ | ⟨_, h1, c', rfl, h4⟩ <;> (have := ih _ _ _ h4; simp only [List.length_cons]; omega)
theorem okPath_chg {a b : Nat → Int} {n m : Nat} : ∀ (l : List Int) (i j c : Nat), okPath a b n m l i j c → c ≤ (n - i) + (m - j) := by
  intro l
  induction l with
  | nil => intro i j c h; obtain ⟨rfl, rfl, rfl⟩ := h; omega
  | cons v l ih =>
    intro i j c h
    rcases h with ⟨_, h1, h2, h3, h4⟩ | ⟨_, h1, c', rfl, h4⟩ | ⟨_, h1, c', rfl, h4⟩ <;> (have := ih _ _ _ h4; omega)
theorem okPath_bits {a b : Nat → Int} {n m : Nat} : ∀ (l : List Int) (i j c : Nat), okPath a b n m l i j c → ∀ v ∈ l, v = 0 ∨ v = 1 ∨ v = 2 := by
  intro l
  induction l with
  | nil => intro i j c h v hv; cases hv
  | cons u l ih =>
    intro i j c h v hv
    rcases List.mem_cons.1 hv with rfl | hv
    · rcases h with ⟨h, _⟩ | ⟨h, _⟩ | ⟨h, _⟩ <;> omega
    · rcases h with ⟨_, h1, h2, h3, h4⟩ | ⟨_, h1, c', rfl, h4⟩ | ⟨_, h1, c', rfl, h4⟩ <;> exact ih _ _ _ h4 v hv

/-- A path of the least number of changes has n + m - 2 lcs of them. -/
theorem least {a b : Nat → Int} {n m D : Nat} {l : List Int} (h : okPath a b n m l 0 0 D) (hD : D + 2 * sfx a b n m 0 0 ≤ n + m) : D + 2 * lcs a b n m = n + m := by
  have h1 := (okPath_lcs l 0 0 D h).2.2
  rw [lcs_zero_l] at h1
  have h2 := lcs_le_sfx (a := a) (b := b) (n := n) (m := m)
  omega

end Go.Proofs.Qxb6621635a

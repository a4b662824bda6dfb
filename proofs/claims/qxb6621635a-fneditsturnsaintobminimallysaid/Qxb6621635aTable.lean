/- The furthest-reaching table as a function T of row and index; what lastEdit answers off it; why the search ends at the least number of changes; how the path is read back. No Go in sight. -/
import Derived.Test.Qxb6621635aPlain
namespace Go.Proofs.Qxb6621635a

theorem lcs_bd_l (a b : Nat → Int) (i j : Nat) : lcs a b i j ≤ i := by
  induction i with
  | zero => rw [lcs_zero_l]; omega
  | succ i ih => have := (lcs_l a b i j).2; omega

/-! ### what lastEdit answers -/
def down (p k m : Int) : Int := if p ≠ -1 ∧ p - k ≤ m then p else -1
def leX (p1 p2 k n m : Int) : Int := if p2 ≠ -1 ∧ p2 + 1 ≤ n ∧ down p1 k m < p2 + 1 then p2 + 1 else down p1 k m
def leF (p1 p2 k n m : Int) : Int := if p2 ≠ -1 ∧ p2 + 1 ≤ n ∧ down p1 k m < p2 + 1 then k - 1 else if p1 ≠ -1 ∧ p1 - k ≤ m then k + 1 else 0

/-- The diagonal of slot t in row d. -/
def kk (d t : Nat) : Int := 2 * t - d
def pD (T : Nat → Nat → Int) (d t : Nat) : Int := if t + 1 ≤ d then T (d - 1) (2 * t) else -1
def pR (T : Nat → Nat → Int) (d t : Nat) : Int := if 1 ≤ t then T (d - 1) (2 * t - 2) else -1
def st (T : Nat → Nat → Int) (n m d t : Nat) : Int := if d = 0 then 0 else leX (pD T d t) (pR T d t) (kk d t) n m
def fr (T : Nat → Nat → Int) (n m d t : Nat) : Int := if d = 0 then 0 else leF (pD T d t) (pR T d t) (kk d t) n m

/-- A cell c of a slot that starts at s, on diagonal k: unreached, or the end of a run of equal items from s. -/
def CellOk (a b : Nat → Int) (n m : Nat) (s c k : Int) : Prop :=
  c = -1 ∨ (0 ≤ s ∧ s ≤ c ∧ c ≤ n ∧ 0 ≤ s - k ∧ c - k ≤ m ∧ ∀ u : Nat, s ≤ u → u < c → a u = b ((u : Int) - k).toNat)
def RowOk (a b : Nat → Int) (n m : Nat) (T : Nat → Nat → Int) (d : Nat) : Prop := ∀ t, t ≤ d → CellOk a b n m (st T n m d t) (T d (2 * t)) (kk d t)
/-- A slot that is through: its run went as far as it could, and not to the end of both lists. -/
def DoneAt (a b : Nat → Int) (n m : Nat) (T : Nat → Nat → Int) (d t : Nat) : Prop :=
  0 ≤ st T n m d t → st T n m d t ≤ T d (2 * t) ∧ (T d (2 * t) = n ∨ T d (2 * t) - kk d t = m ∨ ¬ a (T d (2 * t)).toNat = b (T d (2 * t) - kk d t).toNat) ∧ ¬ (T d (2 * t) = n ∧ T d (2 * t) - kk d t = m)

theorem leX_ge_R {p1 p2 k n m : Int} (h : p2 ≠ -1) (h1 : p2 + 1 ≤ n) : p2 + 1 ≤ leX p1 p2 k n m := by
  unfold leX
  by_cases h2 : down p1 k m < p2 + 1
  · rw [if_pos ⟨h, h1, h2⟩]; omega
  · rw [if_neg fun q => h2 q.2.2]; omega
theorem leX_ge_D {p1 p2 k n m : Int} (h : p1 ≠ -1) (h1 : p1 - k ≤ m) : p1 ≤ leX p1 p2 k n m := by
  have e : down p1 k m = p1 := if_pos ⟨h, h1⟩
  unfold leX
  rw [e]
  split <;> omega

/-- Where lastEdit's answer comes from. -/
theorem le_cases {p1 p2 k n m : Int} (h : leX p1 p2 k n m ≠ -1) :
    (p2 ≠ -1 ∧ p2 + 1 ≤ n ∧ leX p1 p2 k n m = p2 + 1 ∧ leF p1 p2 k n m = k - 1) ∨ (p1 ≠ -1 ∧ p1 - k ≤ m ∧ leX p1 p2 k n m = p1 ∧ leF p1 p2 k n m = k + 1) := by
  unfold leX at h ⊢
  unfold leF
  by_cases h2 : p2 ≠ -1 ∧ p2 + 1 ≤ n ∧ down p1 k m < p2 + 1
  · rw [if_pos h2, if_pos h2]; exact .inl ⟨h2.1, h2.2.1, rfl, rfl⟩
  · rw [if_neg h2] at h ⊢
    rw [if_neg h2]
    unfold down at h ⊢
    by_cases h3 : p1 ≠ -1 ∧ p1 - k ≤ m
    · rw [if_pos h3, if_pos h3]; exact .inr ⟨h3.1, h3.2, rfl, rfl⟩
    · rw [if_neg h3] at h; exact absurd rfl h

section
variable {a b : Nat → Int} {n m : Nat} {T : Nat → Nat → Int}

theorem st_zero (t : Nat) : st T n m 0 t = 0 := if_pos rfl
theorem st_succ (d t : Nat) : st T n m (d + 1) t = leX (pD T (d + 1) t) (pR T (d + 1) t) (kk (d + 1) t) n m := if_neg (by omega)
theorem fr_succ (d t : Nat) : fr T n m (d + 1) t = leF (pD T (d + 1) t) (pR T (d + 1) t) (kk (d + 1) t) n m := if_neg (by omega)

/-- The start of a slot, where there is one: by the step and the slot of the row before from which it comes. -/
theorem st_from {d t : Nat} (ht : t ≤ d + 1) (h : st T n m (d + 1) t ≠ -1) :
    (∃ t', t = t' + 1 ∧ t' ≤ d ∧ T d (2 * t') ≠ -1 ∧ T d (2 * t') + 1 ≤ n ∧ st T n m (d + 1) t = T d (2 * t') + 1 ∧ fr T n m (d + 1) t = kk (d + 1) t - 1) ∨
    (t ≤ d ∧ T d (2 * t) ≠ -1 ∧ T d (2 * t) - kk (d + 1) t ≤ m ∧ st T n m (d + 1) t = T d (2 * t) ∧ fr T n m (d + 1) t = kk (d + 1) t + 1) := by
  rw [st_succ] at h ⊢
  rw [fr_succ]
  rcases le_cases h with ⟨h1, h2, h3, h4⟩ | ⟨h1, h2, h3, h4⟩
  · left
    unfold pR at h1 h2
    by_cases h5 : 1 ≤ t
    · obtain ⟨t', rfl⟩ : ∃ t', t = t' + 1 := ⟨t - 1, by omega⟩
      have e : pR T (d + 1) (t' + 1) = T d (2 * t') := by
        unfold pR; rw [if_pos h5, show d + 1 - 1 = d by omega, show 2 * (t' + 1) - 2 = 2 * t' by omega]
      unfold pR at e
      rw [e] at h1 h2
      refine ⟨t', rfl, by omega, h1, h2, ?_, h4⟩
      rw [h3]; unfold pR; rw [e]
    · rw [if_neg h5] at h1; exact absurd rfl h1
  · right
    unfold pD at h1 h2
    by_cases h5 : t + 1 ≤ d + 1
    · rw [if_pos h5, show d + 1 - 1 = d by omega] at h1 h2
      refine ⟨by omega, h1, h2, ?_, h4⟩
      rw [h3]; unfold pD; rw [if_pos h5, show d + 1 - 1 = d by omega]
    · rw [if_neg h5] at h1; exact absurd rfl h1

theorem kk_R (d t : Nat) : kk (d + 1) (t + 1) = kk d t + 1 := by unfold kk; omega
theorem kk_D (d t : Nat) : kk (d + 1) t = kk d t - 1 := by unfold kk; omega

/-- A start lies in the grid. -/
theorem st_in {d t : Nat} (hr : ∀ d', d' < d → RowOk a b n m T d') (ht : t ≤ d) (h : st T n m d t ≠ -1) :
    0 ≤ st T n m d t ∧ st T n m d t ≤ n ∧ 0 ≤ st T n m d t - kk d t ∧ st T n m d t - kk d t ≤ m := by
  cases d with
  | zero =>
    obtain rfl : t = 0 := by omega
    rw [st_zero]; unfold kk; omega
  | succ d =>
    rcases st_from ht h with ⟨t', rfl, h1, h2, h3, h4, _⟩ | ⟨h1, h2, h3, h4, _⟩
    · rw [h4]
      rcases hr d (by omega) t' h1 with hc | ⟨c1, c2, c3, c4, c5, _⟩
      · exact absurd hc h2
      · have := kk_R d t'; omega
    · rw [h4]
      rcases hr d (by omega) t h1 with hc | ⟨c1, c2, c3, c4, c5, _⟩
      · exact absurd hc h2
      · have := kk_D d t; omega

/-! ### the search ends in time -/
/-- Some slot of row d starts no less far than a point from which the rest can be done in time. -/
def Wit (a b : Nat → Int) (n m : Nat) (T : Nat → Nat → Int) (d : Nat) : Prop :=
  ∃ t x y : Nat, t ≤ d ∧ (x : Int) - y = kk d t ∧ (x : Int) ≤ st T n m d t ∧ x ≤ n ∧ y ≤ m ∧ d + (n - x) + (m - y) + 2 * sfx a b n m 0 0 ≤ n + m + 2 * sfx a b n m x y

theorem wit_zero : Wit a b n m T 0 := ⟨0, 0, 0, by omega, by unfold kk; omega, by rw [st_zero]; omega, by omega, by omega, by omega⟩

theorem wit_bound {d : Nat} (h : Wit a b n m T d) : d + 2 * sfx a b n m 0 0 ≤ n + m := by
  obtain ⟨t, x, y, _, _, _, hx, hy, h⟩ := h
  have h1 : sfx a b n m x y ≤ n - x := lcs_bd_l _ _ _ _
  have h2 : sfx a b n m x y ≤ m - y := lcs_bd _ _ _ _
  omega

theorem wit_succ {d : Nat} (h : Wit a b n m T d) (hr : RowOk a b n m T d) (hd : ∀ t, t ≤ d → DoneAt a b n m T d t) : Wit a b n m T (d + 1) := by
  obtain ⟨t, x, y, ht, hk, hs, hx, hy, h⟩ := h
  obtain ⟨d1, d2, d3⟩ := hd t ht (by omega)
  rcases hr t ht with hc | ⟨c1, c2, c3, c4, c5, _⟩
  · omega
  · obtain ⟨c, hc⟩ : ∃ c : Nat, T d (2 * t) = c := ⟨(T d (2 * t)).toNat, by omega⟩
    rw [hc] at d1 d2 d3 c2 c3 c5
    obtain ⟨τ, rfl⟩ : ∃ τ, c = x + τ := ⟨c - x, by omega⟩
    have hd := sfx_diags (a := a) (b := b) (n := n) (m := m) (x := x) (y := y) τ (by omega) (by omega)
    have ey : ((x + τ : Nat) : Int) - kk d t = ((y + τ : Nat) : Int) := by omega
    rw [ey] at d2 d3 c5
    simp only [Int.toNat_natCast] at d2
    -- one more step from (x + τ, y + τ)
    have goR : x + τ < n → d + 1 + (n - (x + τ + 1)) + (m - (y + τ)) + 2 * sfx a b n m 0 0 ≤ n + m + 2 * sfx a b n m (x + τ + 1) (y + τ) → Wit a b n m T (d + 1) := by
      intro g1 g2
      refine ⟨t + 1, x + τ + 1, y + τ, by omega, by have := kk_R d t; omega, ?_, by omega, by omega, g2⟩
      rw [st_succ]
      have e : pR T (d + 1) (t + 1) = T d (2 * t) := by unfold pR; rw [if_pos (by omega), show d + 1 - 1 = d by omega, show 2 * (t + 1) - 2 = 2 * t by omega]
      have := leX_ge_R (p1 := pD T (d + 1) (t + 1)) (p2 := pR T (d + 1) (t + 1)) (k := kk (d + 1) (t + 1)) (n := n) (m := m) (by rw [e, hc]; omega) (by rw [e, hc]; omega)
      rw [e, hc] at this
      rw [e, hc]
      omega
    have goD : y + τ < m → d + 1 + (n - (x + τ)) + (m - (y + τ + 1)) + 2 * sfx a b n m 0 0 ≤ n + m + 2 * sfx a b n m (x + τ) (y + τ + 1) → Wit a b n m T (d + 1) := by
      intro g1 g2
      refine ⟨t, x + τ, y + τ + 1, by omega, by have := kk_D d t; omega, ?_, by omega, by omega, g2⟩
      rw [st_succ]
      have e : pD T (d + 1) t = T d (2 * t) := by unfold pD; rw [if_pos (by omega), show d + 1 - 1 = d by omega]
      have := leX_ge_D (p1 := pD T (d + 1) t) (p2 := pR T (d + 1) t) (k := kk (d + 1) t) (n := n) (m := m) (by rw [e, hc]; omega) (by rw [e, hc]; have := kk_D d t; omega)
      rw [e, hc] at this
      rw [e, hc]
      exact this
    by_cases hn : x + τ = n
    · have hm : y + τ < m := by omega
      refine goD hm ?_
      have e1 : sfx a b n m (x + τ) (y + τ) = 0 := by rw [hn]; exact sfx_end_l _
      omega
    · by_cases hm : y + τ = m
      · refine goR (by omega) ?_
        have e1 : sfx a b n m (x + τ) (y + τ) = 0 := by rw [hm]; exact sfx_end_r _
        omega
      · have hne : ¬ a (x + τ) = b (y + τ) := by omega
        have e := sfx_ne (a := a) (b := b) (n := n) (m := m) (x := x + τ) (y := y + τ) (by omega) (by omega) hne
        by_cases hmax : sfx a b n m (x + τ) (y + τ + 1) ≤ sfx a b n m (x + τ + 1) (y + τ)
        · exact goR (by omega) (by omega)
        · exact goD (by omega) (by omega)

/-! ### how the path is read back -/
/-- A run of keeps. -/
theorem okPath_keeps {l : List Int} {c : Nat} (k : Int) : ∀ (τ s : Nat) (y : Nat), (s : Int) - k = y → s + τ ≤ n → y + τ ≤ m → (∀ u : Nat, s ≤ u → u < s + τ → a u = b ((u : Int) - k).toNat) → okPath a b n m l (s + τ) (y + τ) c →
    okPath a b n m (List.replicate τ 0 ++ l) s y c := by
  intro τ
  induction τ with
  | zero => intro s y _ _ _ _ h; exact h
  | succ τ ih =>
    intro s y hk hn hm he h
    refine .inl ⟨rfl, by omega, by omega, ?_, ?_⟩
    · have := he s (by omega) (by omega)
      rw [this, hk, Int.toNat_natCast]
    · refine ih (s + 1) (y + 1) (by omega) (by omega) (by omega) (fun u h1 h2 => he u (by omega) (by omega)) ?_
      rw [show s + 1 + τ = s + (τ + 1) by omega, show y + 1 + τ = y + (τ + 1) by omega]
      exact h

end

/-! ### the table as it is written -/
def upd (T : Nat → Nat → Int) (d i : Nat) (v : Int) : Nat → Nat → Int := fun d' i' => if d' = d ∧ i' = i then v else T d' i'
def fresh (T : Nat → Nat → Int) (d : Nat) : Nat → Nat → Int := fun d' i' => if d' = d then -1 else T d' i'
theorem upd_at (T : Nat → Nat → Int) (d i : Nat) (v : Int) : upd T d i v d i = v := if_pos ⟨rfl, rfl⟩
theorem upd_row (T : Nat → Nat → Int) (d i : Nat) (v : Int) {d' : Nat} (h : d' ≠ d) (i' : Nat) : upd T d i v d' i' = T d' i' := if_neg fun q => h q.1
theorem upd_idx (T : Nat → Nat → Int) (d i : Nat) (v : Int) (d' : Nat) {i' : Nat} (h : i' ≠ i) : upd T d i v d' i' = T d' i' := if_neg fun q => h q.2
theorem fresh_at (T : Nat → Nat → Int) (d i : Nat) : fresh T d d i = -1 := if_pos rfl
theorem fresh_row (T : Nat → Nat → Int) (d : Nat) {d' : Nat} (h : d' ≠ d) (i' : Nat) : fresh T d d' i' = T d' i' := if_neg h

theorem st_congr {T T' : Nat → Nat → Int} {n m d t : Nat} (h : ∀ d', d' < d → ∀ i, T' d' i = T d' i) : st T' n m d t = st T n m d t := by
  cases d with
  | zero => rw [st_zero, st_zero]
  | succ d =>
    rw [st_succ, st_succ]
    have e1 : pD T' (d + 1) t = pD T (d + 1) t := by unfold pD; rw [h (d + 1 - 1) (by omega)]
    have e2 : pR T' (d + 1) t = pR T (d + 1) t := by unfold pR; rw [h (d + 1 - 1) (by omega)]
    rw [e1, e2]
theorem RowOk.congr {a b : Nat → Int} {n m : Nat} {T T' : Nat → Nat → Int} {d : Nat} (hr : RowOk a b n m T d) (h : ∀ d', d' ≤ d → ∀ i, T' d' i = T d' i) : RowOk a b n m T' d := by
  intro t ht
  rw [st_congr (fun d' hd i => h d' (by omega) i), h d (Nat.le_refl _)]
  exact hr t ht
theorem Wit.congr {a b : Nat → Int} {n m : Nat} {T T' : Nat → Nat → Int} {d : Nat} (hw : Wit a b n m T d) (h : ∀ d', d' < d → ∀ i, T' d' i = T d' i) : Wit a b n m T' d := by
  obtain ⟨t, x, y, h1, h2, h3, h4⟩ := hw
  exact ⟨t, x, y, h1, h2, by rw [st_congr h]; exact h3, h4⟩

end Go.Proofs.Qxb6621635a

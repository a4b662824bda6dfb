/- Plain mathematics of the dump and of its reader. No walk here. -/
import Derived.Test.Qxb6621651aLine
import Derived.Laws.BytesArg
namespace Go.Proofs.Qxb6621651a

/-! ### bytes back into a string -/
theorem str_bts (s : ByteArray) : strOfNums (bts s) = s := by
  have h : (strOfNums (bts s)).data.toList = s.data.toList := by
    rw [strOfNums_data]
    unfold bts
    rw [List.map_map]
    have e : ((fun n : Int => UInt8.ofNat n.toNat) ∘ fun b : UInt8 => (b.toNat : Int)) = id := by
      funext b
      simp
    rw [e, List.map_id]
  have h2 : (strOfNums (bts s)).data = s.data := Array.toList_inj.1 h
  cases s
  cases hs : strOfNums (bts _) with
  | mk d =>
    rw [hs] at h2
    simp only at h2
    rw [h2]

/-! ### separators -/
def sepB (s : ByteArray) : Bool := (bts s).any fun v => v == 44 || v == 10
theorem sep_no {s : ByteArray} (h : sepB s = false) : ∀ v ∈ bts s, v ≠ 44 ∧ v ≠ 10 := by
  intro v hv
  unfold sepB at h
  rw [List.any_eq_false] at h
  have := h v hv
  simp at this
  exact this

/-! ### the dump -/
def dump (us ps ms : Nat → ByteArray) : Nat → List Int
  | 0 => []
  | k + 1 => dump us ps ms k ++ line (us k) (ps k) (ms k)
def flds (us ps ms : Nat → ByteArray) : Nat → List (List Int)
  | 0 => []
  | k + 1 => flds us ps ms k ++ [bts (us k), bts (ps k), bts (ms k)]
theorem flds_length (us ps ms : Nat → ByteArray) (k : Nat) : (flds us ps ms k).length = 3 * k := by
  induction k with
  | zero => rfl
  | succ k ih => simp only [flds, List.length_append, ih, List.length_cons, List.length_nil]; omega
theorem flds_get (us ps ms : Nat → ByteArray) (n i : Nat) (h : i < n) :
    (flds us ps ms n).getD (3 * i) [] = bts (us i) ∧ (flds us ps ms n).getD (3 * i + 1) [] = bts (ps i) ∧ (flds us ps ms n).getD (3 * i + 2) [] = bts (ms i) := by
  induction n with
  | zero => omega
  | succ n ih =>
    simp only [flds]
    by_cases e : i = n
    · subst e
      have hl := flds_length us ps ms i
      refine ⟨?_, ?_, ?_⟩ <;> (rw [List.getD_eq_getElem?_getD, List.getElem?_append_right (by omega), hl])
      · rw [Nat.sub_self]; rfl
      · rw [show 3 * i + 1 - 3 * i = 1 by omega]; rfl
      · rw [show 3 * i + 2 - 3 * i = 2 by omega]; rfl
    · obtain ⟨h1, h2, h3⟩ := ih (by omega)
      have hl := flds_length us ps ms n
      rw [List.getD_eq_getElem?_getD] at h1 h2 h3
      refine ⟨?_, ?_, ?_⟩ <;> (rw [List.getD_eq_getElem?_getD, List.getElem?_append_left (by omega)]; assumption)

/-! ### the reader -/
/-- What the reader has: the fields, the counts a line, the bytes since the last separator, the fields since the last newline. -/
structure Rd where
  fs : List (List Int)
  pl : List Int
  cur : List Int
  cnt : Nat
def stepS (s : Rd) (b : Int) : Rd :=
  if b = 44 then ⟨s.fs ++ [s.cur], s.pl, [], s.cnt + 1⟩
  else if b = 10 then ⟨s.fs ++ [s.cur], s.pl ++ [((s.cnt + 1 : Nat) : Int)], [], 0⟩
  else ⟨s.fs, s.pl, s.cur ++ [b], s.cnt⟩
def rd0 : Rd := ⟨[], [], [], 0⟩
def prs (D : List Int) (j : Nat) : Rd := (D.take j).foldl stepS rd0
theorem prs_zero (D : List Int) : prs D 0 = rd0 := rfl
theorem prs_succ (D : List Int) (j : Nat) (h : j < D.length) : prs D (j + 1) = stepS (prs D j) (D.getD j 0) := by
  unfold prs
  rw [List.take_succ_eq_append_getElem h, List.foldl_append]
  simp [h]
theorem stepS_44 (s : Rd) : stepS s 44 = ⟨s.fs ++ [s.cur], s.pl, [], s.cnt + 1⟩ := if_pos rfl
theorem stepS_10 (s : Rd) : stepS s 10 = ⟨s.fs ++ [s.cur], s.pl ++ [((s.cnt + 1 : Nat) : Int)], [], 0⟩ := by unfold stepS; rw [if_neg (by omega), if_pos rfl]
theorem stepS_else {s : Rd} {b : Int} (h1 : b ≠ 44) (h2 : b ≠ 10) : stepS s b = ⟨s.fs, s.pl, s.cur ++ [b], s.cnt⟩ := by unfold stepS; rw [if_neg h1, if_neg h2]

/-- The bytes since the last separator lie just ahead of place j; nothing is longer than what was read. -/
theorem prs_inv (D : List Int) (j : Nat) (h : j ≤ D.length) :
    (prs D j).cur.length ≤ j ∧ (∀ i, i < (prs D j).cur.length → (prs D j).cur.getD i 0 = D.getD (j - (prs D j).cur.length + i) 0) ∧ (prs D j).fs.length ≤ j ∧ (prs D j).pl.length ≤ j ∧ (prs D j).cnt ≤ j := by
  induction j with
  | zero => rw [prs_zero]; simp [rd0]
  | succ j ih =>
    obtain ⟨h1, h2, h3, h4, h5⟩ := ih (by omega)
    rw [prs_succ D j (by omega)]
    unfold stepS
    by_cases e1 : D.getD j 0 = 44
    · rw [if_pos e1]
      simp only [List.length_append, List.length_cons, List.length_nil]
      exact ⟨by omega, fun i hi => absurd hi (by omega), by omega, by omega, by omega⟩
    · rw [if_neg e1]
      by_cases e2 : D.getD j 0 = 10
      · rw [if_pos e2]
        simp only [List.length_append, List.length_cons, List.length_nil]
        exact ⟨by omega, fun i hi => absurd hi (by omega), by omega, by omega, by omega⟩
      · rw [if_neg e2]
        simp only [List.length_append, List.length_cons, List.length_nil]
        refine ⟨by omega, fun i hi => ?_, by omega, by omega, by omega⟩
        by_cases e3 : i < (prs D j).cur.length
        · have := h2 i e3
          rw [List.getD_eq_getElem?_getD, List.getElem?_append_left e3, ← List.getD_eq_getElem?_getD, this]
          congr 1; omega
        · have e4 : i = (prs D j).cur.length := by omega
          subst e4
          rw [List.getD_eq_getElem?_getD, List.getElem?_append_right (Nat.le_refl _), Nat.sub_self]
          rw [show j + 1 - ((prs D j).cur.length + 1) + (prs D j).cur.length = j by omega]
          rfl

theorem fold_plain (l : List Int) (h : ∀ v ∈ l, v ≠ 44 ∧ v ≠ 10) : ∀ s : Rd, l.foldl stepS s = ⟨s.fs, s.pl, s.cur ++ l, s.cnt⟩ := by
  induction l with
  | nil => intro s; simp
  | cons v l ih =>
    intro s
    obtain ⟨h1, h2⟩ := h v (by simp)
    rw [List.foldl_cons, stepS_else h1 h2, ih (fun x hx => h x (by simp [hx]))]
    simp
theorem fold_line (u p a : ByteArray) (hu : sepB u = false) (hp : sepB p = false) (ha : sepB a = false) (fs : List (List Int)) (pl : List Int) :
    (line u p a).foldl stepS ⟨fs, pl, [], 0⟩ = ⟨fs ++ [bts u, bts p, bts a], pl ++ [3], [], 0⟩ := by
  unfold line
  simp only [List.foldl_append, fold_plain _ (sep_no hu), fold_plain _ (sep_no hp), fold_plain _ (sep_no ha), List.foldl_cons, List.foldl_nil, stepS_44, stepS_10]
  simp
theorem fold_dump (us ps ms : Nat → ByteArray) (n : Nat) (h : ∀ i, i < n → sepB (us i) = false ∧ sepB (ps i) = false ∧ sepB (ms i) = false) :
    (dump us ps ms n).foldl stepS rd0 = ⟨flds us ps ms n, List.replicate n 3, [], 0⟩ := by
  induction n with
  | zero => rfl
  | succ n ih =>
    simp only [dump, flds]
    rw [List.foldl_append, ih fun i hi => h i (by omega)]
    obtain ⟨h1, h2, h3⟩ := h n (by omega)
    rw [fold_line _ _ _ h1 h2 h3, List.replicate_succ']
theorem prs_dump (us ps ms : Nat → ByteArray) (n : Nat) (h : ∀ i, i < n → sepB (us i) = false ∧ sepB (ps i) = false ∧ sepB (ms i) = false) :
    prs (dump us ps ms n) (dump us ps ms n).length = ⟨flds us ps ms n, List.replicate n 3, [], 0⟩ := by
  unfold prs
  rw [List.take_length]
  exact fold_dump us ps ms n h

/-! ### sizes -/
def tot (f : Nat → ByteArray) : Nat → Nat
  | 0 => 0
  | k + 1 => tot f k + (16 + (f k).size)
theorem tot_ge (f : Nat → ByteArray) (n : Nat) : 16 * n ≤ tot f n := by
  induction n with
  | zero => simp [tot]
  | succ n ih => simp only [tot]; omega
theorem dump_length (us ps ms : Nat → ByteArray) (n : Nat) : (dump us ps ms n).length ≤ tot us n + tot ps n + tot ms n := by
  induction n with
  | zero => simp [dump]
  | succ n ih => simp only [dump, tot, List.length_append, line_length]; omega
theorem tot_mono (f : Nat → ByteArray) (k n : Nat) (h : k ≤ n) : tot f k ≤ tot f n := by
  induction n with
  | zero => have : k = 0 := by omega
            subst this; exact Nat.le_refl _
  | succ n ih =>
    by_cases e : k = n + 1
    · subst e; exact Nat.le_refl _
    · have := ih (by omega)
      simp only [tot]; omega
theorem tot_at (f : Nat → ByteArray) (k n : Nat) (h : k < n) : tot f k + (16 + (f k).size) ≤ tot f n := tot_mono f (k + 1) n h

end Go.Proofs.Qxb6621651a

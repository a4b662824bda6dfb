/- The table of rows as it lies in memory. -/
import Derived.Test.Qxb6621635aLcs
namespace Go.Proofs.Qxb6621635a
open Go.ChangeShapes Go.WideShapes Go.ChangeAt Go.RowKit

theorem own_of_row {w : World} {R cap L B : Nat} {f : Nat → Value} (h : w.rowIs R 22 cap f) (hL : L ≤ cap) (hc : cap ≤ maxLen) (hB : B ≤ R) :
    w.ownsRow B 22 1 (.slice (some ⟨R, 0, none⟩) L cap) L ((List.range L).map f) := by
  obtain ⟨c, hb, hn, hf⟩ := h
  refine ⟨by simp, .inr ⟨R, cap, c, rfl, hB, hb, hL, hc, by simp [hn], ?_⟩⟩
  rw [Nat.mul_one]
  apply List.ext_getElem?
  intro i
  by_cases hi : i < L
  · rw [List.getElem?_take_of_lt hi]
    have := hf i (by omega)
    simpa [hi] using this
  · rw [List.getElem?_eq_none (by simp; omega), List.getElem?_eq_none (by simp; omega)]

theorem row_of_own {w : World} {R cap n B : Nat} {xs : List Value} (h : w.ownsRow B 22 1 (.slice (some ⟨R, 0, none⟩) n cap) n xs) :
    ∃ f, w.rowIs R 22 cap f ∧ ∀ i, i < n → xs[i]? = some (f i) := by
  rcases h.2 with ⟨h', _⟩ | ⟨g', cap', cur, h', _, hg, hle, _, hsz, htake⟩
  · simp at h'
  · simp only [Value.slice.injEq, Option.some.injEq, Addr.mk.injEq, and_true, true_and] at h'
    obtain ⟨rfl, rfl⟩ := h'
    rw [Nat.mul_one] at hsz htake
    refine ⟨fun i => cur[i]?.getD undef, ⟨cur, hg, hsz, fun i hi => ?_⟩, fun i hi => ?_⟩
    · have : i < cur.size := by omega
      simp [this]
    · have : i < cur.size := by omega
      rw [← htake, List.getElem?_take_of_lt hi]
      simp [this]

/-- Rows 0 .. L-1 of the table lie in blocks g i, their headers in block R, which has room for cap of them; all of it in blocks from B on. -/
structure Tab (w : World) (B R L cap : Nat) (g : Nat → Nat) (T : Nat → Nat → Int) : Prop where
  out : ∃ f, w.rowIs R 22 cap f ∧ ∀ i, i < L → f i = .slice (some ⟨g i, 0, none⟩) (2 * i + 1) (2 * i + 1)
  rows : ∀ i, i < L → w.rowIs (g i) 3 (2 * i + 1) (fun j => .int .i64 (T i j))
  sep : ∀ i, i < L → g i ≠ R
  inj : ∀ i j, i < L → j < L → i ≠ j → g i ≠ g j
  low : B ≤ R ∧ ∀ i, i < L → B ≤ g i

section
variable {w w' : World} {B R L cap : Nat} {g : Nat → Nat} {T : Nat → Nat → Int}

theorem Tab.ltR (h : Tab w B R L cap g T) : R < w.heap.size := by obtain ⟨f, hf, _⟩ := h.out; exact hf.lt

/-- The blocks of the table are as they were. -/
theorem Tab.of_blocks (h : Tab w B R L cap g T) (e : ∀ k, k < w.heap.size → w'.heap[k]? = w.heap[k]?) : Tab w' B R L cap g T := by
  obtain ⟨f, hf, hv⟩ := h.out
  exact ⟨⟨f, hf.of_block (e _ hf.lt), hv⟩, fun i hi => (h.rows i hi).of_block (e _ (h.rows i hi).lt), h.sep, h.inj, h.low⟩
theorem Tab.later (h : Tab w B R L cap g T) (hb : Below w.heap.size w w') : Tab w' B R L cap g T := h.of_blocks hb.block
theorem Tab.drew (h : Tab w B R L cap g T) : Tab w.drew B R L cap g T := h.of_blocks fun _ _ => rfl
theorem Tab.alloc (h : Tab w B R L cap g T) (o : Obj) : Tab (w.alloc o) B R L cap g T := h.of_blocks fun k hk => Below.heap_alloc w o k hk
/-- A store outside the table. -/
theorem Tab.setOther (h : Tab w B R L cap g T) {a : Addr} (hR : R ≠ a.block) (hg : ∀ i, i < L → g i ≠ a.block) (v : Value) : Tab (w.setCell a v) B R L cap g T := by
  obtain ⟨f, hf, hv⟩ := h.out
  exact ⟨⟨f, hf.setOther hR v, hv⟩, fun i hi => (h.rows i hi).setOther (hg i hi) v, h.sep, h.inj, h.low⟩
/-- A store into a row. -/
theorem Tab.set (h : Tab w B R L cap g T) {d : Nat} (hd : d < L) (j : Nat) (v : Int) : Tab (w.setCell ⟨g d, j, none⟩ (.int .i64 v)) B R L cap g (upd T d j v) := by
  obtain ⟨f, hf, hv⟩ := h.out
  refine ⟨⟨f, hf.setOther (Ne.symm (h.sep d hd)) _, hv⟩, fun i hi => ?_, h.sep, h.inj, h.low⟩
  by_cases e : i = d
  · subst e
    refine ((h.rows i hi).set j _).congr fun t _ => ?_
    by_cases e2 : t = j
    · subst e2; rw [if_pos rfl, upd_at]
    · rw [if_neg e2, upd_idx _ _ _ _ _ e2]
  · refine ((h.rows i hi).setOther (h.inj i d hi hd e) _).congr fun t _ => ?_
    rw [upd_row _ _ _ _ e]
theorem Tab.congr {T' : Nat → Nat → Int} (h : Tab w B R L cap g T) (e : ∀ i, i < L → ∀ j, T' i j = T i j) : Tab w B R L cap g T' := by
  refine ⟨h.out, fun i hi => (h.rows i hi).congr fun j _ => ?_, h.sep, h.inj, h.low⟩
  rw [e i hi]
/-- The rows as lastEdit reads them. -/
theorem Tab.rowAt (h : Tab w B R L cap g T) (hL : L ≤ cap) {e : Nat} (he : e < L) : RowAt w R L e T := by
  obtain ⟨f, hf, hv⟩ := h.out
  refine ⟨he, g e, ?_, fun j hj => (h.rows e he).cell hj⟩
  rw [← hv e he]
  exact hf.cell (by omega)

/-- 'reached = append(reached, row)': a row of -1 joins the table. -/
theorem Tab.append {G : Nat} {xs : List Value} (h : Tab w B R L cap g T) (hxs : ∃ f, (∀ i, i < L → f i = .slice (some ⟨g i, 0, none⟩) (2 * i + 1) (2 * i + 1)) ∧ xs = (List.range L).map f)
    (hG : w.rowIs G 3 (2 * L + 1) (fun _ => .int .i64 (-1))) (hGR : G ≠ R) (hGg : ∀ i, i < L → g i ≠ G) (hGB : B ≤ G)
    (hown : w'.ownsRow B 22 1 (.slice (some ⟨R, 0, none⟩) (L + 1) cap) (L + 1) (xs ++ [.slice (some ⟨G, 0, none⟩) (2 * L + 1) (2 * L + 1)])) (hgrow : w.grownBy w' (some R)) :
    Tab w' B R (L + 1) cap (fun i => if i = L then G else g i) (fresh T L) := by
  obtain ⟨f0, hf0, rfl⟩ := hxs
  obtain ⟨f, hf, hv⟩ := row_of_own hown
  refine ⟨⟨f, hf, fun i hi => ?_⟩, fun i hi => ?_, fun i hi => ?_, fun i j hi hj hne => ?_, h.low.1, fun i hi => ?_⟩
  · have := hv i hi
    by_cases e : i = L
    · subst e
      rw [if_pos rfl]
      rw [List.getElem?_append_right (by simp)] at this
      simpa using this.symm
    · rw [if_neg e]
      rw [List.getElem?_append_left (by simp; omega)] at this
      have hi' : i < L := by omega
      rw [← hf0 i hi']
      simpa [hi'] using this.symm
  · by_cases e : i = L
    · subst e
      rw [if_pos rfl]
      refine (hG.of_block (hgrow.block _ hG.lt (by simpa using hGR))).congr fun j _ => ?_
      rw [fresh_at]
    · rw [if_neg e]
      have hi' : i < L := by omega
      refine ((h.rows i hi').of_block (hgrow.block _ (h.rows i hi').lt (by simpa using h.sep i hi'))).congr fun j _ => ?_
      rw [fresh_row _ _ e]
  · by_cases e : i = L
    · rw [if_pos e]; exact hGR
    · rw [if_neg e]; exact h.sep i (by omega)
  · by_cases e : i = L
    · rw [if_pos e, if_neg (by omega)]; exact Ne.symm (hGg j (by omega))
    · rw [if_neg e]
      by_cases e2 : j = L
      · rw [if_pos e2]; exact hGg i (by omega)
      · rw [if_neg e2]; exact h.inj i j (by omega) (by omega) hne
  · by_cases e : i = L
    · rw [if_pos e]; exact hGB
    · rw [if_neg e]; exact h.low.2 i (by omega)
end

/-- What append asks of the headers. -/
theorem Tab.heads {w : World} {B R L cap : Nat} {g : Nat → Nat} {T : Nat → Nat → Int} (h : Tab w B R L cap g T) (hL : L ≤ cap) (hc : cap ≤ maxLen) :
    ∃ xs, w.ownsRow B 22 1 (.slice (some ⟨R, 0, none⟩) L cap) L xs ∧ ∃ f, (∀ i, i < L → f i = .slice (some ⟨g i, 0, none⟩) (2 * i + 1) (2 * i + 1)) ∧ xs = (List.range L).map f := by
  obtain ⟨f, hf, hv⟩ := h.out
  exact ⟨_, own_of_row hf hL hc h.low.1, f, hv, rfl⟩

/-- The row while it is filled with -1. -/
def frow (i j : Nat) : Value := if j < i then .int .i64 (-1) else .int .i64 0
theorem frow_step (w : World) (G N i : Nat) (h : w.rowIs G 3 N (frow i)) : (w.setCell ⟨G, i, none⟩ (.int .i64 (-1))).rowIs G 3 N (frow (i + 1)) := by
  refine (h.set i _).congr fun j _ => ?_
  unfold frow
  by_cases h1 : j = i
  · subst h1; rw [if_pos rfl, if_pos (by omega)]
  · rw [if_neg h1]
    by_cases h2 : j < i
    · rw [if_pos h2, if_pos (by omega)]
    · rw [if_neg h2, if_neg (by omega)]
theorem frow_done (w : World) (G N : Nat) (h : w.rowIs G 3 N (frow N)) : w.rowIs G 3 N (fun _ => .int .i64 (-1)) :=
  h.congr fun j hj => by unfold frow; rw [if_pos hj]

end Go.Proofs.Qxb6621635a

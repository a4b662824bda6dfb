/- Contracts of lastEdit and of its closure prev. -/
import Derived.Test.Qxb6621635aTable
import Derived.WalkKit
import Derived.ProofKit
import Derived.OpenShut
import Derived.WalkLawsBesides
import Derived.WalkSpells
import Derived.Deep.OwnRows
import Derived.Sort.AtCall
namespace Go.Proofs.Qxb6621635a
open Go.ChangeShapes Go.WideShapes Go.ChangeAt Go.RowKit

/-- Two steps that leave old memory alone. -/
theorem thn {w w1 w2 : World} (h : Below w.heap.size w w1) (k : Below w1.heap.size w1 w2) : Below w.heap.size w w2 := h.trans (k.mono h.size)
theorem ret_two {a b c d : Int} (h1 : a = c) (h2 : b = d) : Ending.returned (.tuple #[.int .i64 a, .int .i64 b]) = .returned (.tuple #[.int .i64 c, .int .i64 d]) := by rw [h1, h2]
theorem ret_int {k : IntKind} {a b : Int} (h : a = b) : Ending.returned (.int k a) = .returned (.int k b) := by rw [h]

set_option maxRecDepth 100000 in
theorem prev_in (w : World) (Bd Br R g L C e j : Nat) (k v : Int) (he : e ≤ 2048) (hL : e < L) (hk : k + e = j) (hj : j < 2 * e + 1)
    (hd : w.cell? ⟨Bd, 0, none⟩ = some (.int .i64 ((e : Int) + 1))) (hr : w.cell? ⟨Br, 0, none⟩ = some (.slice (some ⟨R, 0, none⟩) L C))
    (ho : w.cell? ⟨R, e, none⟩ = some (.slice (some ⟨g, 0, none⟩) (2 * e + 1) (2 * e + 1))) (hc : w.cell? ⟨g, j, none⟩ = some (.int .i64 v)) :
    Calls Try.prog 12 #[.int .i64 k, .pointer (some ⟨Bd, 0, none⟩), .pointer (some ⟨Br, 0, none⟩)] w fun e w' => e = .returned (.int .i64 v) ∧ Below w.heap.size w w' := by
  have b1 : ¬ (k < -(e : Int)) := by omega
  have b2 : ¬ ((e : Int) < k) := by omega
  obtain rfl : k = (j : Int) - e := by omega
  clear hk
  have hc' : w.cell? ⟨g, ((j : Int) - e + (e + 1)).toNat - 1, none⟩ = some (.int .i64 v) := by rw [show ((j : Int) - e + (e + 1)).toNat - 1 = j by omega]; exact hc
  clear hc
  go_enter Try.func12, Try.ntmps12
  go_wp2
  go_region
  all_goals (try go_wp2)
  all_goals go_ret
  all_goals exact ⟨rfl, (Below.refl _ _).drew⟩

set_option maxRecDepth 100000 in
theorem prev_out (w : World) (Bd Br e : Nat) (k : Int) (he : e ≤ 2048) (hk : k < -(e : Int) ∨ (e : Int) < k)
    (hd : w.cell? ⟨Bd, 0, none⟩ = some (.int .i64 ((e : Int) + 1))) :
    Calls Try.prog 12 #[.int .i64 k, .pointer (some ⟨Bd, 0, none⟩), .pointer (some ⟨Br, 0, none⟩)] w fun e w' => e = .returned (.int .i64 (-1)) ∧ Below w.heap.size w w' := by
  by_cases h : k < -(e : Int)
  · go_enter Try.func12, Try.ntmps12
    go_wp2
    go_ret
    exact ⟨rfl, Below.refl _ _⟩
  · have h2 : (e : Int) < k := by omega
    go_enter Try.func12, Try.ntmps12
    go_wp2
    go_ret
    exact ⟨rfl, Below.refl _ _⟩

/-- Row e of the table as lastEdit reads it. -/
structure RowAt (w : World) (R L e : Nat) (T : Nat → Nat → Int) : Prop where
  lt : e < L
  row : ∃ g, w.cell? ⟨R, e, none⟩ = some (.slice (some ⟨g, 0, none⟩) (2 * e + 1) (2 * e + 1)) ∧ ∀ j, j < 2 * e + 1 → w.cell? ⟨g, j, none⟩ = some (.int .i64 (T e j))

theorem RowAt.later {w w' : World} {R L e : Nat} {T : Nat → Nat → Int} (h : RowAt w R L e T) (hb : Below w.heap.size w w') : RowAt w' R L e T := by
  obtain ⟨h1, g, h2, h3⟩ := h
  exact ⟨h1, g, cell_later hb h2, fun j hj => cell_later hb (h3 j hj)⟩

/-- prev at the slot below: pD; at the slot to the left: pR. -/
theorem prev_D (w : World) (Bd Br R L C e t : Nat) (T : Nat → Nat → Int) (he : e ≤ 2048) (ht : t ≤ e + 1) (h : RowAt w R L e T)
    (hd : w.cell? ⟨Bd, 0, none⟩ = some (.int .i64 ((e : Int) + 1))) (hr : w.cell? ⟨Br, 0, none⟩ = some (.slice (some ⟨R, 0, none⟩) L C)) :
    Calls Try.prog 12 #[.int .i64 (kk (e + 1) t + 1), .pointer (some ⟨Bd, 0, none⟩), .pointer (some ⟨Br, 0, none⟩)] w fun x w' => x = .returned (.int .i64 (pD T (e + 1) t)) ∧ Below w.heap.size w w' := by
  unfold pD
  by_cases h1 : t + 1 ≤ e + 1
  · rw [if_pos h1]
    obtain ⟨hL, g, ho, hc⟩ := h
    exact prev_in w Bd Br R g L C e (2 * t) _ _ he hL (by unfold kk; omega) (by omega) hd hr ho (hc _ (by omega))
  · rw [if_neg h1]
    exact prev_out w Bd Br e _ he (.inr (by unfold kk; omega)) hd
theorem prev_R (w : World) (Bd Br R L C e t : Nat) (T : Nat → Nat → Int) (he : e ≤ 2048) (ht : t ≤ e + 1) (h : RowAt w R L e T)
    (hd : w.cell? ⟨Bd, 0, none⟩ = some (.int .i64 ((e : Int) + 1))) (hr : w.cell? ⟨Br, 0, none⟩ = some (.slice (some ⟨R, 0, none⟩) L C)) :
    Calls Try.prog 12 #[.int .i64 (kk (e + 1) t - 1), .pointer (some ⟨Bd, 0, none⟩), .pointer (some ⟨Br, 0, none⟩)] w fun x w' => x = .returned (.int .i64 (pR T (e + 1) t)) ∧ Below w.heap.size w w' := by
  unfold pR
  by_cases h1 : 1 ≤ t
  · rw [if_pos h1]
    obtain ⟨hL, g, ho, hc⟩ := h
    exact prev_in w Bd Br R g L C e (2 * t - 2) _ _ he hL (by unfold kk; omega) (by omega) hd hr ho (hc _ (by omega))
  · rw [if_neg h1]
    exact prev_out w Bd Br e _ he (.inl (by unfold kk; omega)) hd

set_option maxRecDepth 100000 in
set_option maxHeartbeats 400000 in
theorem last_succ (w : World) (R L C e t n m : Nat) (T : Nat → Nat → Int) (he : e ≤ 2048) (ht : t ≤ e + 1) (hn : n ≤ 2048) (hm : m ≤ 2048) (h : RowAt w R L e T)
    (bD : -1 ≤ pD T (e + 1) t ∧ pD T (e + 1) t ≤ 2048) (bR : -1 ≤ pR T (e + 1) t ∧ pR T (e + 1) t ≤ 2048) :
    Calls Try.prog 10 #[.slice (some ⟨R, 0, none⟩) L C, .int .i64 ((e : Int) + 1), .int .i64 (kk (e + 1) t), .int .i64 n, .int .i64 m] w
      fun x w' => x = .returned (.tuple #[.int .i64 (st T n m (e + 1) t), .int .i64 (fr T n m (e + 1) t)]) ∧ Below w.heap.size w w' := by
  have hk : -3000 ≤ kk (e + 1) t ∧ kk (e + 1) t ≤ 3000 := by unfold kk; omega
  rw [st_succ, fr_succ]
  have hb0 : Below w.heap.size w ((w.alloc (.cells #[.slice (some ⟨R, 0, none⟩) L C] 24)).alloc (.cells #[.int .i64 ((e : Int) + 1)] 3)) := ((Below.refl _ _).alloc (Nat.le_refl _) _).alloc (by simp) _
  have D1 := prev_D _ (w.heap.size + 1) w.heap.size R L C e t T he ht (h.later hb0) (by simp) (by simp)
  generalize pD T (e + 1) t = p1 at *
  have D2 := fun w' hw => prev_R w' (w.heap.size + 1) w.heap.size R L C e t T he ht ((h.later hb0).later hw) (cell_later hw (by simp)) (cell_later hw (by simp))
  generalize pR T (e + 1) t = p2 at *
  generalize kk (e + 1) t = k at *
  go_enter Try.func10, Try.ntmps10
  go_wp2_with (first
    | (go_at_call_has 12 (Value.int IntKind.i64 (k + 1)); refine D1.mono ?_; rintro x w1 ⟨rfl, hB1⟩; clear D1; have D2 := D2 w1 hB1)
    | (go_at_call_has 12 (Value.int IntKind.i64 (k - 1)); refine D2.mono ?_; rintro x w2 ⟨rfl, hB2⟩))
  all_goals (go_ret2; refine ⟨ret_two ?_ ?_, thn (thn hb0 hB1) hB2⟩)
  all_goals (try simp only [bne_iff_ne, bne_eq_false_iff_eq] at *)
  all_goals (first | unfold leX | unfold leF)
  all_goals unfold down
  all_goals (repeat' split)
  all_goals omega

theorem last_zero (w : World) (a : Option Addr) (L C : Nat) (k n m : Int) :
    Calls Try.prog 10 #[.slice a L C, .int .i64 0, .int .i64 k, .int .i64 n, .int .i64 m] w
      fun x w' => x = .returned (.tuple #[.int .i64 0, .int .i64 0]) ∧ Below w.heap.size w w' := by
  go_enter Try.func10, Try.ntmps10
  go_wp2
  go_ret2
  exact ⟨rfl, ((Below.refl _ _).alloc (Nat.le_refl _) _).alloc (by simp) _⟩

/-- ZZLastEdit passes on. -/
theorem zlast_any (w : World) (v : Value) (d k n m x f : Int)
    (D : Calls Try.prog 10 #[v, .int .i64 d, .int .i64 k, .int .i64 n, .int .i64 m] w fun e w' => e = .returned (.tuple #[.int .i64 x, .int .i64 f]) ∧ Below w.heap.size w w') :
    Calls Try.prog 8 #[v, .int .i64 d, .int .i64 k, .int .i64 n, .int .i64 m] w fun e w' => e = .returned (.tuple #[.int .i64 x, .int .i64 f]) ∧ Below w.heap.size w w' := by
  go_enter Try.func8, Try.ntmps8
  go_wp2_with (first | (go_at_call 10; refine D.mono ?_; rintro e w' ⟨rfl, hB⟩))
  go_ret2
  exact ⟨rfl, hB⟩

/-- A row's start and its origin, at whatever row: the rows before it lie in memory and are good. -/
theorem last_any (w : World) (R L C d t n m : Nat) (a b : Nat → Int) (T : Nat → Nat → Int) (hd : d ≤ 2048) (ht : t ≤ d) (hn : n ≤ 2048) (hm : m ≤ 2048) (hr : ∀ d', d' < d → RowOk a b n m T d') (h : ∀ e, e < d → RowAt w R L e T) :
    Calls Try.prog 10 #[.slice (some ⟨R, 0, none⟩) L C, .int .i64 d, .int .i64 (kk d t), .int .i64 n, .int .i64 m] w
      fun x w' => x = .returned (.tuple #[.int .i64 (st T n m d t), .int .i64 (fr T n m d t)]) ∧ Below w.heap.size w w' := by
  cases d with
  | zero =>
    rw [st_zero, show fr T n m 0 t = 0 from if_pos rfl]
    exact last_zero w _ L C _ _ _
  | succ e =>
    have bd : ∀ t', t' ≤ e → -1 ≤ T e (2 * t') ∧ T e (2 * t') ≤ 2048 := by
      intro t' h'
      rcases hr e (by omega) t' h' with hc | hc
      · omega
      · omega
    have D := last_succ w R L C e t n m T (by omega) ht hn hm (h e (by omega))
      (by unfold pD; split
          · rw [show e + 1 - 1 = e by omega]; exact bd t (by omega)
          · omega)
      (by unfold pR; split
          · rw [show e + 1 - 1 = e by omega, show 2 * t - 2 = 2 * (t - 1) by omega]; exact bd (t - 1) (by omega)
          · omega)
    rw [show ((e + 1 : Nat) : Int) = (e : Int) + 1 by omega]
    exact D

end Go.Proofs.Qxb6621635a

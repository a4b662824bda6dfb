/- The contract of slices.Reverse at the moves' type. -/
import Derived.Test.Qxb6621635aTab
import Derived.WalkSmall
import Derived.RegionTactic
namespace Go.Proofs.Qxb6621635a
open Go.ChangeShapes Go.WideShapes Go.ChangeAt Go.RowKit

theorem Try.info29 : (Try.prog.info? 29).map (fun i => (i.zero, i.size, i.bytes)) = some (some (.int .u8 0), 1, 1) := by kernel_rfl

/-- The row while Reverse runs: what lies before place i and behind place n-1-i has been exchanged. -/
def rrow (F : Nat → Value) (n i : Nat) (t : Nat) : Value := if t < n ∧ (t < i ∨ n ≤ t + i) then F (n - 1 - t) else F t

theorem rrow_step (w : World) (g cap n i : Nat) (F : Nat → Value) (hi : 2 * i + 1 < n) (h : w.rowIs g 29 cap (rrow F n i)) :
    ((w.setCell ⟨g, i, none⟩ (F (n - 1 - i))).setCell ⟨g, n - 1 - i, none⟩ (F i)).rowIs g 29 cap (rrow F n (i + 1)) := by
  refine ((h.set i _).set (n - 1 - i) _).congr fun t _ => ?_
  unfold rrow
  by_cases h1 : t = n - 1 - i
  · subst h1
    rw [if_pos rfl, if_pos ⟨by omega, .inr (by omega)⟩]
    congr 1; omega
  · rw [if_neg h1]
    by_cases h2 : t = i
    · subst h2
      rw [if_pos rfl, if_pos ⟨by omega, .inl (by omega)⟩]
    · rw [if_neg h2]
      by_cases h3 : t < n ∧ (t < i ∨ n ≤ t + i)
      · rw [if_pos h3, if_pos ⟨h3.1, by omega⟩]
      · rw [if_neg h3, if_neg (by omega)]

set_option maxRecDepth 100000 in
set_option maxHeartbeats 1000000 in
theorem rev_any (g n cap B : Nat) (z : Nat → Int) (F : Nat → Value) (w : World) (hn : n ≤ cap) (hc : n ≤ 100000) (hB : B ≤ g) (h : w.rowIs g 29 cap F) (hF : ∀ t, t < n → F t = .int .u8 (z t)) :
    Calls Try.prog 11 #[.slice (some ⟨g, 0, none⟩) n cap] w fun e w' => e = .returned (.tuple #[]) ∧ (∃ F', w'.rowIs g 29 cap F' ∧ ∀ t, t < n → F' t = .int .u8 (z (n - 1 - t))) ∧ Below B w w' := by
  have h0 : w.rowIs g 29 cap (rrow F n 0) := h.congr fun t _ => by unfold rrow; rw [if_neg (by omega)]
  clear h
  go_enter Try.func11, Try.ntmps11
  go_wp2
  go_loopw [2, 3] (fun i j wr => ∃ k : Nat, k ≤ n ∧ i = .int .i64 k ∧ j = .int .i64 ((n : Int) - 1 - k) ∧ (k = 0 ∨ 2 * k ≤ n) ∧ wr.rowIs g 29 cap (rrow F n k) ∧ Below B w wr) (fun i _ _ => n - (intOf i).toNat)
  case atStart => exact ⟨0, by omega, rfl, by go_num, .inl rfl, h0, Below.refl _ _⟩
  case round =>
    clear h0
    obtain ⟨k, hk, rfl, rfl, hk2, hr, hb⟩ := hrel
    by_cases hlt : 2 * k + 1 < n
    · have e1 := hr.cell (i := k) (by omega)
      have e2 := hr.cell (i := n - 1 - k) (by omega)
      have f1 := hr.frozen k
      have f2 := hr.frozen (n - 1 - k)
      rw [show rrow F n k k = .int .u8 (z k) by unfold rrow; rw [if_neg (by omega)]; exact hF k (by omega)] at e1
      rw [show rrow F n k (n - 1 - k) = .int .u8 (z (n - 1 - k)) by unfold rrow; rw [if_neg (by omega)]; exact hF _ (by omega)] at e2
      have hst := rrow_step _ _ _ _ _ _ hlt hr
      rw [hF k (by omega), hF (n - 1 - k) (by omega)] at hst
      have i1 : (k : Int) < (n : Int) - 1 - k := by omega
      go_wp2
      go_region
      all_goals go_wp2
      all_goals go_roundw
      case rel => exact ⟨k + 1, by omega, by go_num, by go_num, by omega, hst.drew, ((hb.setCell (p := ⟨g, k, none⟩) hB _).setCell (p := ⟨g, n - 1 - k, none⟩) hB _).drew⟩
      case measure => simp [intOf]; omega
    · have i1 : ¬ ((k : Int) < (n : Int) - 1 - k) := by omega
      go_wp2
      go_end0
      refine ⟨rfl, ⟨_, hr, fun t ht => ?_⟩, hb⟩
      unfold rrow
      by_cases h3 : t < n ∧ (t < k ∨ n ≤ t + k)
      · rw [if_pos h3]; exact hF _ (by omega)
      · rw [if_neg h3, hF t ht]
        have : n - 1 - t = t := by omega
        rw [this]

theorem rev_nil (w : World) : Calls Try.prog 11 #[.slice none 0 0] w fun e w' => e = .returned (.tuple #[]) ∧ w = w' := by
  go_enter Try.func11, Try.ntmps11
  go_wp2
  refine wp_loop_rounds 1 ?_
  rw [rounds_succ]
  go_wp2
  go_end0
  exact ⟨rfl, rfl⟩

end Go.Proofs.Qxb6621635a

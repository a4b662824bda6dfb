/- The contract of zzLCS. -/
import Derived.Test.Qxb6621635aLast
import Derived.RegionTactic
namespace Go.Proofs.Qxb6621635a
open Go.ChangeShapes Go.WideShapes Go.ChangeAt Go.RowKit

/-- The numbers z lie at the slice's address. -/
def Lies (w : World) (a : Option Addr) (n : Nat) (z : Nat → Int) : Prop :=
  n = 0 ∨ ∃ b off, a = some ⟨b, off, none⟩ ∧ ∀ i, i < n → w.cell? ⟨b, off + i, none⟩ = some (.int .i64 (z i))
theorem Lies.later {w w' : World} (hb : Below w.heap.size w w') {a : Option Addr} {n : Nat} {z : Nat → Int} (h : Lies w a n z) : Lies w' a n z := by
  rcases h with h | ⟨b, off, ha, hc⟩
  · exact .inl h
  · exact .inr ⟨b, off, ha, fun i hi => cell_later hb (hc i hi)⟩

theorem Try.info3 : (Try.prog.info? 3).map (fun i => (i.zero, i.size, i.bytes)) = some (some (.int .i64 0), 1, 8) := by kernel_rfl

/-- The current row while the inner loop runs. -/
def crow (a b : Nat → Int) (i j : Nat) (f : Nat → Value) (t : Nat) : Value := if t ≤ j then .int .i64 (lcs a b (i + 1) t) else f t

theorem crow_zero (w : World) (g N : Nat) (a b : Nat → Int) (i : Nat) (f : Nat → Value) (h : w.rowIs g 3 N f) : (w.setCell ⟨g, 0, none⟩ (.int .i64 0)).rowIs g 3 N (crow a b i 0 f) := by
  refine (h.set 0 _).congr fun t _ => ?_
  unfold crow
  by_cases h1 : t = 0
  · subst h1; rw [if_pos rfl, if_pos (Nat.le_refl _), lcs_zero_r]; rfl
  · rw [if_neg h1, if_neg (by omega)]
theorem crow_step (w : World) (g N : Nat) (a b : Nat → Int) (i j : Nat) (f : Nat → Value) (v : Int) (h : w.rowIs g 3 N (crow a b i j f)) (hv : v = lcs a b (i + 1) (j + 1)) :
    (w.setCell ⟨g, j + 1, none⟩ (.int .i64 v)).rowIs g 3 N (crow a b i (j + 1) f) := by
  refine (h.set (j + 1) _).congr fun t _ => ?_
  unfold crow
  by_cases h1 : t = j + 1
  · subst h1; rw [if_pos rfl, if_pos (Nat.le_refl _), hv]
  · rw [if_neg h1]
    by_cases h2 : t ≤ j
    · rw [if_pos h2, if_pos (by omega)]
    · rw [if_neg h2, if_neg (by omega)]
theorem crow_done (w : World) (g N : Nat) (a b : Nat → Int) (i : Nat) (f : Nat → Value) (h : w.rowIs g 3 (N + 1) (crow a b i N f)) : w.rowIs g 3 (N + 1) (fun t => .int .i64 (lcs a b (i + 1) t)) :=
  h.congr fun t ht => by unfold crow; rw [if_pos (by omega)]

set_option maxRecDepth 100000 in
set_option maxHeartbeats 1000000 in
theorem lcs_any (a0 b0 : Option Addr) (n c0 m c1 : Nat) (a b : Nat → Int) (w : World) (hn : n ≤ 512) (hm : m ≤ 512) (la : Lies w a0 n a) (lb : Lies w b0 m b) :
    Calls Try.prog 7 #[.slice a0 n c0, .slice b0 m c1] w fun e w' => e = .returned (.int .i64 (lcs a b n m)) ∧ Below w.heap.size w w' := by
  have hmk := run_make_row' (P := Try.prog) 22 3 (.int .i64 0) 8 Try.underlying22 Try.info3 rfl .i64 .i64 (m + 1) (by omega) (by omega)
  have ec : ((m + 1 : Nat) : Int) = (m : Int) + 1 := by omega
  rw [ec] at hmk
  clear ec
  have r1 : ((w.alloc (.cells (madeCells #[.int .i64 0] (m + 1)) 3)).alloc (.cells (madeCells #[.int .i64 0] (m + 1)) 3)).rowIs w.heap.size 3 (m + 1) (fun t => .int .i64 (lcs a b 0 t)) :=
    (World.rowIs_made w (.int .i64 0) (m + 1) 3).alloc _
  have r2 := World.rowIs_made (w.alloc (.cells (madeCells #[.int .i64 0] (m + 1)) 3)) (.int .i64 0) (m + 1) 3
  rw [show (w.alloc (.cells (madeCells #[.int .i64 0] (m + 1)) 3)).heap.size = w.heap.size + 1 by simp] at r2
  have hb0 : Below w.heap.size w ((w.alloc (.cells (madeCells #[.int .i64 0] (m + 1)) 3)).alloc (.cells (madeCells #[.int .i64 0] (m + 1)) 3)) := ((Below.refl _ _).alloc (Nat.le_refl _) _).alloc (by simp) _
  go_enter Try.func7, Try.ntmps7
  go_wp2
  go_loopw [6, 7, 8] (fun p q i wr => ∃ k gp gc : Nat, ∃ f : Nat → Value, k ≤ n ∧ i = .int .i64 (k + 1) ∧ p = .slice (some ⟨gp, 0, none⟩) (m + 1) (m + 1) ∧ q = .slice (some ⟨gc, 0, none⟩) (m + 1) (m + 1) ∧ gp ≠ gc ∧ w.heap.size ≤ gp ∧ w.heap.size ≤ gc ∧
      wr.rowIs gp 3 (m + 1) (fun t => .int .i64 (lcs a b k t)) ∧ wr.rowIs gc 3 (m + 1) f ∧ Below w.heap.size w wr) (fun _ _ i _ => n + 1 - (intOf i).toNat)
  case atStart => exact ⟨0, w.heap.size, w.heap.size + 1, _, by omega, rfl, rfl, rfl, by omega, by omega, by omega, r1, r2, hb0⟩
  case round =>
    clear r1 r2 hb0
    obtain ⟨k, gp, gc, f, hk, rfl, rfl, rfl, hne, hgp, hgc, hp, hc, hb⟩ := hrel
    by_cases hlt : k < n
    · have d0 := hc.cell (i := 0) (by omega)
      have f0 := hc.frozen 0
      have hc1 := crow_zero _ _ _ a b k f hc
      have hp1 := hp.setOther (a := ⟨gc, 0, none⟩) hne (.int .i64 0)
      have hb1 := hb.setCell (p := ⟨gc, 0, none⟩) hgc (.int .i64 0)
      go_wp2
      go_loopw [9] (fun j ws => ∃ t : Nat, t ≤ m ∧ j = .int .i64 (t + 1) ∧ ws.rowIs gp 3 (m + 1) (fun t => .int .i64 (lcs a b k t)) ∧ ws.rowIs gc 3 (m + 1) (crow a b k t f) ∧ Below w.heap.size w ws) (fun j _ => m + 1 - (intOf j).toNat)
      case atStart => exact ⟨0, by omega, rfl, hp1, hc1, hb1⟩
      case round =>
        clear hp1 hc1 hb1 d0 f0 hp hc hb
        obtain ⟨t, ht, rfl, hp, hc, hb⟩ := hrel
        by_cases hlt2 : t < m
        · obtain ⟨ba, oa, rfl, hca⟩ := la.resolve_left (by omega)
          obtain ⟨bb, ob, rfl, hcb⟩ := lb.resolve_left (by omega)
          have c1 := cell_later hb (hca k hlt)
          have c2 := cell_later hb (hcb t hlt2)
          have e1 := hp.cell (i := t) (by omega)
          have e2 := hp.cell (i := t + 1) (by omega)
          have e3 := hc.cell (i := t) (by omega)
          have e4 := hc.cell (i := t + 1) (by omega)
          rw [show crow a b k t f t = .int .i64 (lcs a b (k + 1) t) from if_pos (Nat.le_refl _)] at e3
          have f4 := hc.frozen (t + 1)
          have bd1 := lcs_bd a b k t
          have bd2 := lcs_bd a b k (t + 1)
          have bd3 := lcs_bd a b (k + 1) t
          by_cases he : a k = b t
          · have he' : (a k == b t) = true := beq_iff_eq.2 he
            have hv : Hid ((lcs a b k t : Int) + 1 = lcs a b (k + 1) (t + 1)) := by rw [lcs_eq he]; exact rfl
            clear he
            go_wp2
            go_region
            all_goals go_wp2
            all_goals go_roundw
            case rel => exact ⟨t + 1, by omega, by go_num, (hp.drew.setOther hne _), crow_step _ _ _ _ _ _ _ _ _ hc.drew hv.out, (hb.drew).setCell hgc _⟩
            case measure => simp [intOf]; omega
          · have he' : (a k == b t) = false := beq_eq_false_iff_ne.2 he
            by_cases hge : lcs a b (k + 1) t ≤ lcs a b k (t + 1)
            · have hv : Hid ((lcs a b k (t + 1) : Int) = lcs a b (k + 1) (t + 1)) := by rw [lcs_ne he, Nat.max_eq_left hge]; exact rfl
              clear he
              go_wp2
              go_region
              all_goals go_wp2
              go_region
              all_goals go_wp2
              go_roundw
              case rel => exact ⟨t + 1, by omega, by go_num, (hp.drew.drew.setOther hne _), crow_step _ _ _ _ _ _ _ _ _ hc.drew.drew hv.out, (hb.drew.drew).setCell hgc _⟩
              case measure => simp [intOf]; omega
            · have hv : Hid ((lcs a b (k + 1) t : Int) = lcs a b (k + 1) (t + 1)) := by rw [lcs_ne he, Nat.max_eq_right (by omega)]; exact rfl
              clear he
              go_wp2
              go_region
              all_goals go_wp2
              go_region
              all_goals go_wp2
              go_roundw
              case rel => exact ⟨t + 1, by omega, by go_num, (hp.drew.drew.setOther hne _), crow_step _ _ _ _ _ _ _ _ _ hc.drew.drew hv.out, (hb.drew.drew).setCell hgc _⟩
              case measure => simp [intOf]; omega
        · obtain rfl : t = m := by omega
          have hc2 := crow_done _ _ _ _ _ _ _ hc
          clear hc
          go_wp2
          go_roundw
          case rel => exact ⟨k + 1, gc, gp, _, by omega, by go_num, rfl, rfl, Ne.symm hne, hgc, hgp, hc2, hp, hb⟩
          case measure => simp [intOf]; omega
    · obtain rfl : k = n := by omega
      have e := hp.cell (i := m) (by omega)
      go_wp2
      go_ret
      exact ⟨rfl, hb⟩

end Go.Proofs.Qxb6621635a

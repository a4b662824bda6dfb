/- Contracts of joinBytes and the two zzBytes. -/
import Derived.Test.Qxb6619931aBrk
import Derived.Deep.OwnRows
import Derived.Laws.CopyOwn
namespace Go.Proofs.Qxb6619931a
open Go.ChangeShapes Go.WideShapes Go.ChangeAt Go.RowKit

/-- The bytes z lie at the slice's address. -/
def Lies (w : World) (a : Option Addr) (n : Nat) (z : Nat → Int) : Prop :=
  n = 0 ∨ ∃ b off, a = some ⟨b, off, none⟩ ∧ ∀ i, i < n → w.cell? ⟨b, off + i, none⟩ = some (.int .u8 (z i))

theorem Try.info5 : (Try.prog.info? 5).map (fun i => (i.zero, i.size, i.bytes)) = some (some (.int .u8 0), 1, 1) := by kernel_rfl

/-- The bytes of pre followed by text. -/
def jn (n0 : Nat) (z0 z1 : Nat → Int) (i : Nat) : Int := if i < n0 then z0 i else z1 (i - n0)
/-- The array while the first loop runs, and while the second does. -/
def j1 (k : Nat) (z0 : Nat → Int) (i : Nat) : Int := if i < k then z0 i else 0
def j2 (n0 k : Nat) (z0 z1 : Nat → Int) (i : Nat) : Int := if i < n0 then z0 i else if i < n0 + k then z1 (i - n0) else 0

theorem j1_step (w : World) (g n k : Nat) (z0 : Nat → Int) (h : w.rowIs g 5 n (fun i => .int .u8 (j1 k z0 i))) :
    (w.setCell ⟨g, k, none⟩ (.int .u8 (z0 k))).rowIs g 5 n (fun i => .int .u8 (j1 (k + 1) z0 i)) := by
  refine (h.set k _).congr fun i _ => ?_
  dsimp only [j1]
  by_cases h1 : i = k
  · subst h1; rw [if_pos rfl, if_pos (by omega)]
  · rw [if_neg h1]
    by_cases h2 : i < k
    · rw [if_pos h2, if_pos (by omega)]
    · rw [if_neg h2, if_neg (by omega)]
theorem j2_step (w : World) (g n n0 k : Nat) (z0 z1 : Nat → Int) (h : w.rowIs g 5 n (fun i => .int .u8 (j2 n0 k z0 z1 i))) :
    (w.setCell ⟨g, n0 + k, none⟩ (.int .u8 (z1 k))).rowIs g 5 n (fun i => .int .u8 (j2 n0 (k + 1) z0 z1 i)) := by
  refine (h.set (n0 + k) _).congr fun i _ => ?_
  dsimp only [j2]
  by_cases h1 : i = n0 + k
  · subst h1; rw [if_pos rfl, if_neg (by omega), if_pos (by omega)]; simp
  · rw [if_neg h1]
    by_cases h2 : i < n0
    · rw [if_pos h2, if_pos h2]
    · rw [if_neg h2, if_neg h2]
      by_cases h3 : i < n0 + k
      · rw [if_pos h3, if_pos (by omega)]
      · rw [if_neg h3, if_neg (by omega)]
theorem j1_j2 (w : World) (g n n0 : Nat) (z0 z1 : Nat → Int) (h : w.rowIs g 5 n (fun i => .int .u8 (j1 n0 z0 i))) : w.rowIs g 5 n (fun i => .int .u8 (j2 n0 0 z0 z1 i)) :=
  h.congr fun i _ => by
    dsimp only [j1, j2]
    by_cases h2 : i < n0
    · rw [if_pos h2, if_pos h2]
    · rw [if_neg h2, if_neg h2, if_neg (by omega)]
theorem j2_jn (w : World) (g n0 n1 : Nat) (z0 z1 : Nat → Int) (h : w.rowIs g 5 (n0 + n1) (fun i => .int .u8 (j2 n0 n1 z0 z1 i))) : w.rowIs g 5 (n0 + n1) (fun i => .int .u8 (jn n0 z0 z1 i)) :=
  h.congr fun i hi => by
    dsimp only [jn, j2]
    by_cases h2 : i < n0
    · rw [if_pos h2, if_pos h2]
    · rw [if_neg h2, if_neg h2, if_pos (by omega)]

set_option maxRecDepth 100000 in
set_option maxHeartbeats 400000 in
theorem join_any (a0 a1 : Option Addr) (n0 c0 n1 c1 : Nat) (z0 z1 : Nat → Int) (w : World) (h0 : n0 ≤ 524288) (h1 : n1 ≤ 524288) (l0 : Lies w a0 n0 z0) (l1 : Lies w a1 n1 z1) :
    Calls Try.prog 9 #[.slice a0 n0 c0, .slice a1 n1 c1] w fun e w' => e = .returned (.slice (some ⟨w.heap.size, 0, none⟩) (n0 + n1) (n0 + n1)) ∧
      w'.rowIs w.heap.size 5 (n0 + n1) (fun i => .int .u8 (jn n0 z0 z1 i)) ∧ Below w.heap.size w w' := by
  have hmk := run_make_row' (P := Try.prog) 22 5 (.int .u8 0) 1 Try.underlying22 Try.info5 rfl .i64 .i64 (n0 + n1) (by omega) (by omega)
  have ec : ((n0 + n1 : Nat) : Int) = (n0 : Int) + (n1 : Int) := by omega
  rw [ec] at hmk
  clear ec
  have hst : (w.alloc (.cells (madeCells #[.int .u8 0] (n0 + n1)) 5)).rowIs w.heap.size 5 (n0 + n1) (fun i => .int .u8 (j1 0 z0 i)) := by
    refine (World.rowIs_made w (.int .u8 0) (n0 + n1) 5).congr fun i _ => ?_
    simp [j1]
  go_enter Try.func9, Try.ntmps9
  go_wp2
  go_loopw [6] (fun i wr => ∃ k : Nat, k ≤ n0 ∧ i = .int .i64 k ∧ wr.rowIs w.heap.size 5 (n0 + n1) (fun i => .int .u8 (j1 k z0 i)) ∧ Below w.heap.size w wr) (fun i _ => n0 - (intOf i).toNat)
  case atStart => exact ⟨0, by omega, rfl, hst, (Below.refl _ _).alloc (Nat.le_refl _) _⟩
  case round =>
    obtain ⟨k, hk, rfl, hr, hb⟩ := hrel
    by_cases hlt : k < n0
    · obtain ⟨b0, o0, rfl, hc0⟩ := l0.resolve_left (by omega)
      have c := cell_later hb (hc0 k hlt)
      have d := hr.cell (i := k) (by omega)
      have f := hr.frozen k
      go_wp2
      go_roundw
      case rel => exact ⟨k + 1, by omega, by go_num, j1_step _ _ _ _ _ hr, hb.setCell (Nat.le_refl _) _⟩
      case measure => simp [intOf]; omega
    · obtain rfl : k = n0 := by omega
      have hr2 := j1_j2 _ _ _ _ z0 z1 hr
      clear hr
      go_wp2
      go_loopw [7] (fun i wr => ∃ t : Nat, t ≤ n1 ∧ i = .int .i64 t ∧ wr.rowIs w.heap.size 5 (k + n1) (fun i => .int .u8 (j2 k t z0 z1 i)) ∧ Below w.heap.size w wr) (fun i _ => n1 - (intOf i).toNat)
      case atStart => exact ⟨0, by omega, rfl, hr2, hb⟩
      case round =>
        clear hr2 hb
        obtain ⟨t, ht, rfl, hr, hb⟩ := hrel
        by_cases hlt2 : t < n1
        · obtain ⟨b1, o1, rfl, hc1⟩ := l1.resolve_left (by omega)
          have c := cell_later hb (hc1 t hlt2)
          have d := hr.cell (i := k + t) (by omega)
          have f := hr.frozen (k + t)
          go_wp2
          go_roundw
          case rel => exact ⟨t + 1, by omega, by go_num, j2_step _ _ _ _ _ _ _ hr, hb.setCell (Nat.le_refl _) _⟩
          case measure => simp [intOf]; omega
        · obtain rfl : t = n1 := by omega
          have hr3 := j2_jn _ _ _ _ z0 z1 hr
          clear hr
          go_wp2
          go_ret
          exact ⟨rfl, hr3, hb⟩

theorem zz_yes (a0 a1 : Option Addr) (n0 c0 n1 c1 : Nat) (i : Int) (w : World) (h : n0 + n1 ≤ 1048576) :
    Calls Try.prog 6 #[.slice a0 n0 c0, .slice a1 n1 c1, .int .i64 i] w fun e w' => e = .returned (.bool true) ∧ w = w' := by
  go_enter Try.func6, Try.ntmps6
  go_wp2
  go_ret
  exact ⟨rfl, rfl⟩

theorem zz_no (a0 a1 : Option Addr) (n0 c0 n1 c1 : Nat) (i : Int) (w : World) (h0 : n0 ≤ 9223372036854775807) (h1 : n1 ≤ 9223372036854775807) (h : 1048576 < n0 + n1) :
    Calls Try.prog 6 #[.slice a0 n0 c0, .slice a1 n1 c1, .int .i64 i] w fun e w' => e = .returned (.bool false) ∧ w = w' := by
  go_enter Try.func6, Try.ntmps6
  go_wp2
  all_goals (go_ret; exact ⟨rfl, rfl⟩)

theorem zzs_yes (a0 a1 : Option Addr) (n0 c0 n1 c1 : Nat) (i c : Int) (w : World) (h : n0 + n1 ≤ 1048576) :
    Calls Try.prog 10 #[.slice a0 n0 c0, .slice a1 n1 c1, .int .i64 i, .int .u8 c] w fun e w' => e = .returned (.bool true) ∧ w = w' := by
  go_enter Try.func10, Try.ntmps10
  go_wp2
  go_ret
  exact ⟨rfl, rfl⟩

theorem zzs_no (a0 a1 : Option Addr) (n0 c0 n1 c1 : Nat) (i c : Int) (w : World) (h0 : n0 ≤ 9223372036854775807) (h1 : n1 ≤ 9223372036854775807) (h : 1048576 < n0 + n1) :
    Calls Try.prog 10 #[.slice a0 n0 c0, .slice a1 n1 c1, .int .i64 i, .int .u8 c] w fun e w' => e = .returned (.bool false) ∧ w = w' := by
  go_enter Try.func10, Try.ntmps10
  go_wp2
  all_goals (go_ret; exact ⟨rfl, rfl⟩)

end Go.Proofs.Qxb6619931a

/- The contracts of b1Clone and zzBytes. -/
import Derived.Test.Qxb6621651aLine
import Derived.RegionTactic
namespace Go.Proofs.Qxb6621651a
open Go.ChangeShapes Go.WideShapes Go.ChangeAt Go.RowKit

/-- The bytes z lie at the slice's address. -/
def Lies (w : World) (a : Option Addr) (n : Nat) (z : Nat → Int) : Prop :=
  n = 0 ∨ ∃ b off, a = some ⟨b, off, none⟩ ∧ ∀ i, i < n → w.cell? ⟨b, off + i, none⟩ = some (.int .u8 (z i))
theorem Lies.later {w w' : World} (hb : Below w.heap.size w w') {a : Option Addr} {n : Nat} {z : Nat → Int} (h : Lies w a n z) : Lies w' a n z := by
  rcases h with h | ⟨b, off, ha, hc⟩
  · exact .inl h
  · exact .inr ⟨b, off, ha, fun i hi => cell_later hb (hc i hi)⟩
theorem Lies.row {w : World} {b N n : Nat} {z : Nat → Int} (h : w.rowIs b 5 N (fun i => .int .u8 (z i))) (hn : n ≤ N) : Lies w (some ⟨b, 0, none⟩) n z :=
  .inr ⟨b, 0, rfl, fun i hi => by rw [Nat.zero_add]; exact h.cell (by omega)⟩

def j1 (k : Nat) (z0 : Nat → Int) (i : Nat) : Int := if i < k then z0 i else 0
theorem j1_step (w : World) (g n k : Nat) (z0 : Nat → Int) (h : w.rowIs g 5 n (fun i => .int .u8 (j1 k z0 i))) :
    (w.setCell ⟨g, k, none⟩ (.int .u8 (z0 k))).rowIs g 5 n (fun i => .int .u8 (j1 (k + 1) z0 i)) := by
  refine (h.set k _).congr fun i _ => ?_
  dsimp only [j1]
  by_cases h1 : i = k
  · subst h1; rw [if_pos rfl, if_pos (by omega)]
  · rw [if_neg h1]
    by_cases h2 : i < k
    · rw [if_pos h2, if_pos (by omega)]
    · rw [if_neg h2, if_neg (by omega)]
theorem j1_done (w : World) (g n : Nat) (z0 : Nat → Int) (h : w.rowIs g 5 n (fun i => .int .u8 (j1 n z0 i))) : w.rowIs g 5 n (fun i => .int .u8 (z0 i)) :=
  h.congr fun i hi => by dsimp only [j1]; rw [if_pos hi]

set_option maxRecDepth 100000 in
theorem clone_some (x : Addr) (n c : Nat) (z : Nat → Int) (w : World) (hn : n ≤ 1048576) (l : Lies w (some x) n z) :
    Calls Try.prog 10 #[.slice (some x) n c] w fun e w' => e = .returned (.slice (some ⟨w.heap.size, 0, none⟩) n n) ∧ w'.rowIs w.heap.size 5 n (fun i => .int .u8 (z i)) ∧ Below w.heap.size w w' := by
  have hmk := run_make_row' (P := Try.prog) 25 5 (.int .u8 0) 1 Try.underlying25 Try.info5 rfl .i64 .i64 n (by omega) (by omega)
  have q25 := fun w => Lib.run_eql_slice_nil (P := Try.prog) w 25 5 (some x) n c 0 0 Try.underlying25
  have hst : (w.alloc (.cells (madeCells #[.int .u8 0] n) 5)).rowIs w.heap.size 5 n (fun i => .int .u8 (j1 0 z i)) := by
    refine (World.rowIs_made w (.int .u8 0) n 5).congr fun i _ => ?_
    simp [j1]
  go_enter Try.func10, Try.ntmps10
  go_wp2
  go_loopw [4] (fun i wr => ∃ k : Nat, k ≤ n ∧ i = .int .i64 k ∧ wr.rowIs w.heap.size 5 n (fun i => .int .u8 (j1 k z i)) ∧ Below w.heap.size w wr) (fun i _ => n - (intOf i).toNat)
  case atStart => exact ⟨0, by omega, rfl, hst, (Below.refl _ _).alloc (Nat.le_refl _) _⟩
  case round =>
    obtain ⟨k, hk, rfl, hr, hb⟩ := hrel
    by_cases hlt : k < n
    · obtain ⟨b0, o0, hx, hc0⟩ := l.resolve_left (by omega)
      cases hx
      have c1 := cell_later hb (hc0 k hlt)
      have d := hr.cell (i := k) (by omega)
      have f := hr.frozen k
      go_wp2
      go_roundw
      case rel => exact ⟨k + 1, by omega, by go_num, j1_step _ _ _ _ _ hr, hb.setCell (Nat.le_refl _) _⟩
      case measure => simp [intOf]; omega
    · obtain rfl : k = n := by omega
      have hr3 := j1_done _ _ _ _ hr
      clear hr
      go_wp2
      go_ret
      exact ⟨rfl, hr3, hb⟩

theorem clone_nil (w : World) : Calls Try.prog 10 #[.slice none 0 0] w fun e w' => e = .returned (.slice none 0 0) ∧ w = w' := by
  have q25 := fun w => Lib.run_eql_slice_nil (P := Try.prog) w 25 5 none 0 0 0 0 Try.underlying25
  go_enter Try.func10, Try.ntmps10
  go_wp2
  go_ret
  exact ⟨rfl, rfl⟩

/-- n bytes as a list. -/
def bl (n : Nat) (z : Nat → Int) : List Int := (List.range n).map z
theorem bl_length (n : Nat) (z : Nat → Int) : (bl n z).length = n := by simp [bl]
theorem bl_get (n : Nat) (z : Nat → Int) (i : Nat) (h : i < n) : (bl n z).getD i 0 = z i := by simp [bl, h]

theorem own_of_row {w : World} {g n B : Nat} {z : Nat → Int} (h : w.rowIs g 5 n (fun i => .int .u8 (z i))) (hc : n ≤ maxLen) (hB : B ≤ g) :
    w.ownsRow B 5 1 (.slice (some ⟨g, 0, none⟩) n n) (bl n z).length (cls (bl n z)) := by
  obtain ⟨c, hb, hn, hf⟩ := h
  rw [bl_length]
  refine ⟨by rw [cls_length, bl_length, Nat.mul_one], .inr ⟨g, n, c, rfl, hB, hb, Nat.le_refl _, hc, by simp [hn], ?_⟩⟩
  rw [Nat.mul_one]
  apply List.ext_getElem?
  intro i
  by_cases hi : i < n
  · rw [List.getElem?_take_of_lt hi]
    have := hf i hi
    simpa [cls, bl, hi] using this
  · rw [List.getElem?_eq_none (by simp; omega), List.getElem?_eq_none (by rw [cls_length, bl_length]; omega)]

/-- The content of an owned row, by the index. -/
theorem own_row {w : World} {B n : Nat} {v : Value} {ms : List Int} (h : w.ownsRow B 5 1 v n (cls ms)) (h0 : 0 < n) :
    ∃ g cap, v = .slice (some ⟨g, 0, none⟩) n cap ∧ n ≤ cap ∧ B ≤ g ∧ g < w.heap.size ∧ ∀ t, t < n → w.cell? ⟨g, t, none⟩ = some (.int .u8 (ms.getD t 0)) := by
  rcases h.2 with ⟨_, h'⟩ | ⟨g, cap, cur, rfl, hb, hg, hle, _, hsz, htake⟩
  · omega
  · refine ⟨g, cap, rfl, hle, hb, (Array.getElem?_eq_some_iff.1 hg).1, fun t ht => ?_⟩
    have h2 := h.cellAt t (by omega)
    rw [h2]
    have hl : t < ms.length := by have := h.1; rw [cls_length] at this; omega
    simp [cls, hl]

theorem clone_any (a0 : Option Addr) (n c : Nat) (z : Nat → Int) (w : World) (hn : n ≤ 1048576) (l : Lies w a0 n z) (h0 : a0 = none → n = 0 ∧ c = 0) :
    Calls Try.prog 10 #[.slice a0 n c] w fun e w' => ∃ ak ck, e = .returned (.slice ak n ck) ∧ w'.ownsRow w.heap.size 5 1 (.slice ak n ck) (bl n z).length (cls (bl n z)) ∧ Lies w' ak n z ∧ (ak = none → n = 0 ∧ ck = 0) ∧ Below w.heap.size w w' := by
  cases a0 with
  | none =>
    obtain ⟨rfl, rfl⟩ := h0 rfl
    exact (clone_nil w).mono fun e w' ⟨he, hw⟩ => ⟨none, 0, he, World.ownsRow_nil _ _ _ _, .inl rfl, fun _ => ⟨rfl, rfl⟩, hw ▸ Below.refl _ _⟩
  | some x =>
    exact (clone_some x n c z w hn l).mono fun e w' ⟨he, hr, hb⟩ => ⟨_, n, he, own_of_row hr (by unfold maxLen; omega) (Nat.le_refl _), Lies.row hr (Nat.le_refl _), fun h => (by cases h), hb⟩

theorem zz_yes (a0 : Option Addr) (n c : Nat) (u p a : ByteArray) (w : World) (h : n + u.size + p.size + a.size ≤ 1048576) :
    Calls Try.prog 9 #[.slice a0 n c, .string u, .string p, .string a] w fun e w' => e = .returned (.bool true) ∧ w = w' := by
  go_enter Try.func9, Try.ntmps9
  go_wp2
  go_ret
  exact ⟨rfl, rfl⟩
theorem zz_no (a0 : Option Addr) (n c : Nat) (u p a : ByteArray) (w : World) (h0 : n ≤ 9223372036854775807) (h1 : u.size ≤ 9223372036854775807) (h2 : p.size ≤ 9223372036854775807) (h3 : a.size ≤ 9223372036854775807) (h : 1048576 < n + u.size + p.size + a.size) :
    Calls Try.prog 9 #[.slice a0 n c, .string u, .string p, .string a] w fun e w' => e = .returned (.bool false) ∧ w = w' := by
  go_enter Try.func9, Try.ntmps9
  go_wp2
  all_goals (go_ret; exact ⟨rfl, rfl⟩)

end Go.Proofs.Qxb6621651a

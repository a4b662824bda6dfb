/- Contracts of startsPlain, plainFirstModel and all that they call. -/
import Derived.Test.Qxb6619931aMem
namespace Go.Proofs.Qxb6619931a
open Go.ChangeShapes Go.WideShapes Go.ChangeAt Go.RowKit

/-- A space, a tab, a line break or the end stands at j. -/
def soe (z : Nat → Int) (n j : Nat) : Bool := decide (n ≤ j) || z j == 32 || z j == 9 || decide (0 < brk z n j)
/-- c is one of the sixteen indicators. -/
def ind (c : Int) : Bool := c == 44 || c == 91 || c == 93 || c == 123 || c == 125 || c == 35 || c == 38 || c == 42 || c == 33 || c == 124 || c == 62 || c == 39 || c == 34 || c == 37 || c == 64 || c == 96

theorem soe_past {z : Nat → Int} {n j : Nat} (h : n ≤ j) : soe z n j = true := by simp [soe, h]

theorem soe_dec {z : Nat → Int} {n j : Nat} (hj : j < n) {cp wd : Int} (h : DecP z n j cp wd) : soe z n j = (cp == 32 || cp == 9 || brkCp cp) := by
  have e1 : (z j == 32) = (cp == 32) := by
    rw [Bool.eq_iff_iff, beq_iff_eq, beq_iff_eq]; unfold DecP at h; omega
  have e2 : (z j == 9) = (cp == 9) := by
    rw [Bool.eq_iff_iff, beq_iff_eq, beq_iff_eq]; unfold DecP at h; omega
  unfold soe
  rw [decide_eq_false (by omega), e1, e2]
  have e3 : decide (0 < brk z n j) = brkCp cp := by
    cases hb : brkCp cp with
    | false => rw [brk_no hj h hb]; rfl
    | true =>
      by_cases hc : cp = 13 ∧ j + 1 < n ∧ z (j + 1) = 10
      · rw [brk_crlf h hc.1 hc.2.1 hc.2.2]; rfl
      · rw [brk_yes hj h hc hb]
        have : 0 < wd := by unfold DecP at h; simp only [brkCp, Bool.or_eq_true, beq_iff_eq] at hb; omega
        simp [this]
  rw [e3]; simp

theorem soe_join (n0 n1 j : Nat) (z0 z1 : Nat → Int) : soe (jn n0 z0 z1) (n0 + n1) (n0 + j) = soe z1 n1 j := by
  have e : jn n0 z0 z1 (n0 + j) = z1 j := by unfold jn; rw [if_neg (by omega)]; congr 1; omega
  unfold soe
  rw [brk_join, e]
  simp only [Nat.add_le_add_iff_left]

theorem space_past (a : Option Addr) (n cap : Nat) (i : Int) (w : World) (h : (n : Int) ≤ i) :
    Calls Try.prog 24 #[.slice a n cap, .int .i64 i] w fun e w' => e = .returned (.bool true) ∧ w = w' := by
  go_enter Try.func24, Try.ntmps24
  go_wp2
  go_ret
  exact ⟨rfl, rfl⟩

theorem ret_bool {a b : Bool} (h : a = b) : Ending.returned (.bool a) = .returned (.bool b) := by rw [h]

set_option maxRecDepth 100000 in
theorem space_row (w : World) (b N n cap k : Nat) (z : Nat → Int) (h : w.rowIs b 5 N (fun i => .int .u8 (z i))) (hn : n ≤ N) (hN : N ≤ 2097152) (hz : ∀ i, 0 ≤ z i ∧ z i ≤ 255) :
    Calls Try.prog 24 #[.slice (some ⟨b, 0, none⟩) n cap, .int .i64 k] w fun e w' => e = .returned (.bool (soe z n k)) ∧ w = w' := by
  by_cases hk : k < n
  · have D := dec_any b 0 n cap k z w (by omega) hk (fun i hi => by rw [Nat.zero_add]; exact h.cell (by omega)) hz
    clear h
    go_enter Try.func24, Try.ntmps24
    go_wp2_with (first | (go_at_call 21; refine D.mono ?_; rintro e w' ⟨⟨cp, wd, rfl, hD⟩, rfl⟩) | (go_at_call 22; refine (isbrk_any _ _).mono ?_; rintro e w' ⟨rfl, rfl⟩))
    all_goals go_ret
    all_goals refine ⟨ret_bool ?_, rfl⟩
    all_goals rw [soe_dec hk hD]
    all_goals simp [*]
  · rw [soe_past (by omega)]
    exact space_past _ _ _ _ _ (by omega)

theorem ind_any (c : Int) (w : World) : Calls Try.prog 25 #[.int .u8 c] w fun e w' => e = .returned (.bool (ind c)) ∧ w = w' := by
  go_enter Try.func25, Try.ntmps25
  go_wp2
  all_goals (go_ret; refine ⟨ret_bool ?_, rfl⟩)
  all_goals (unfold ind; simp [*])


/-- The first two fields of a scanner: its text and its offset. -/
structure Scn (w : World) (B b n cap k : Nat) : Prop where
  text : w.cell? ⟨B, 0, none⟩ = some (.slice (some ⟨b, 0, none⟩) n cap)
  offs : w.cell? ⟨B, 1, none⟩ = some (.int .i64 k)

set_option maxRecDepth 100000 in
theorem byteAt_in (w : World) (B b n cap k : Nat) (d : Int) (j : Nat) (z : Nat → Int) (h : Scn w B b n cap k) (hd : (k : Int) + d = j) (hj : j < n) (hn : n ≤ 2097152) (hc : w.cell? ⟨b, j, none⟩ = some (.int .u8 (z j))) :
    Calls Try.prog 32 #[.pointer (some ⟨B, 0, none⟩), .int .i64 d] w fun e w' => e = .returned (.int .u8 (z j)) ∧ w = w' := by
  obtain ⟨h0, h1⟩ := h
  go_enter Try.func32, Try.ntmps32
  go_wp2
  go_ret
  exact ⟨rfl, rfl⟩

set_option maxRecDepth 100000 in
theorem blankAt_in (w : World) (B b n cap k : Nat) (d : Int) (j : Nat) (z : Nat → Int) (h : Scn w B b n cap k) (hd : (k : Int) + d = j) (hj : j < n) (hn : n ≤ 2097152) (hc : w.cell? ⟨b, j, none⟩ = some (.int .u8 (z j))) :
    Calls Try.prog 31 #[.pointer (some ⟨B, 0, none⟩), .int .i64 d] w fun e w' => e = .returned (.bool (z j == 32 || z j == 9)) ∧ w = w' := by
  have D := byteAt_in w B b n cap k d j z h hd hj hn hc
  clear h hc
  go_enter Try.func31, Try.ntmps31
  go_wp2_with (first | (go_at_call 32; refine D.mono ?_; rintro e w' ⟨rfl, rfl⟩))
  all_goals (go_ret; refine ⟨ret_bool ?_, rfl⟩)
  all_goals simp [*]

set_option maxRecDepth 100000 in
theorem blankEnd_row (w : World) (B b n cap k : Nat) (d : Int) (j : Nat) (z : Nat → Int) (h : Scn w B b n cap k) (hd : (k : Int) + d = j) (hj2 : j ≤ 2097153) (hn : n ≤ 2097152) (hr : w.rowIs b 5 n (fun i => .int .u8 (z i))) :
    Calls Try.prog 29 #[.pointer (some ⟨B, 0, none⟩), .int .i64 d] w fun e w' => e = .returned (.bool (soe z n j)) ∧ Below w.heap.size w w' := by
  by_cases hj : j < n
  · have D := blankAt_in w B b n cap k d j z h hd hj hn (hr.cell hj)
    have D2 := brk_any b 0 n cap j z w hn hj (fun i hi => by rw [Nat.zero_add]; exact hr.cell hi)
    obtain ⟨h0, h1⟩ := h
    clear hr
    go_enter Try.func29, Try.ntmps29
    go_wp2_with (first | (go_at_call 31; refine D.mono ?_; rintro e w' ⟨rfl, rfl⟩) | (go_at_call 20; refine D2.mono ?_; rintro e w' ⟨rfl, hB⟩))
    · go_ret
      exact ⟨ret_bool (by simp only [soe, Bool.or_assoc]), hB⟩
    · go_ret
      refine ⟨ret_bool ?_, Below.refl _ _⟩
      unfold soe
      have : z j = 32 ∨ z j = 9 := by omega
      rcases this with h | h <;> simp [h]
  · rw [soe_past (by omega)]
    obtain ⟨h0, h1⟩ := h
    go_enter Try.func29, Try.ntmps29
    go_wp2
    go_ret
    exact ⟨rfl, Below.refl _ _⟩


/-- What startsPlain and plainFirstModel answer. -/
def spl (z : Nat → Int) (n k : Nat) (c : Int) : Bool :=
  if c = 45 then true else if c = 63 ∨ c = 58 then !soe z n (k + 1) else if ind c = true then false else !soe z n k

theorem spl_join (n0 n1 k : Nat) (c : Int) (z0 z1 : Nat → Int) : spl (jn n0 z0 z1) (n0 + n1) (n0 + k) c = spl z1 n1 k c := by
  unfold spl
  rw [show n0 + k + 1 = n0 + (k + 1) from rfl, soe_join, soe_join]

set_option maxRecDepth 100000 in
theorem starts_row (w : World) (B b n cap k : Nat) (c : Int) (z : Nat → Int) (h : Scn w B b n cap k) (hk : k < n) (hn : n ≤ 2097152) (hr : w.rowIs b 5 n (fun i => .int .u8 (z i))) :
    Calls Try.prog 23 #[.pointer (some ⟨B, 0, none⟩), .int .u8 c] w fun e w' => e = .returned (.bool (spl z n k c)) ∧ Below w.heap.size w w' := by
  have D0 := blankEnd_row w B b n cap k 0 k z h (by omega) (by omega) hn hr
  have D1 := blankEnd_row w B b n cap k 1 (k + 1) z h (by omega) (by omega) hn hr
  clear h hr
  by_cases h45 : c = 45
  · go_enter Try.func23, Try.ntmps23
    go_wp2
    go_ret
    exact ⟨ret_bool (by rw [spl, if_pos h45]), Below.refl _ _⟩
  · by_cases hq : c = 63 ∨ c = 58
    · have e : Hid (spl z n k c = !soe z n (k + 1)) := by rw [spl, if_neg h45, if_pos hq]; rfl
      rcases hq with rfl | rfl
      · go_enter Try.func23, Try.ntmps23
        go_wp2_with (first | (go_at_call 29; refine D1.mono ?_; rintro e w' ⟨rfl, hB⟩))
        go_ret
        exact ⟨ret_bool e.out.symm, hB⟩
      · go_enter Try.func23, Try.ntmps23
        go_wp2_with (first | (go_at_call 29; refine D1.mono ?_; rintro e w' ⟨rfl, hB⟩))
        go_ret
        exact ⟨ret_bool e.out.symm, hB⟩
    · have h63 : ¬ c = 63 := fun h => hq (.inl h)
      have h58 : ¬ c = 58 := fun h => hq (.inr h)
      have e : Hid (spl z n k c = if ind c = true then false else !soe z n k) := by rw [spl, if_neg h45, if_neg hq]; rfl
      go_enter Try.func23, Try.ntmps23
      go_wp2_with (first | (go_at_call 29; refine D0.mono ?_; rintro e w' ⟨rfl, hB⟩))
      all_goals go_ret
      all_goals first
        | exact ⟨ret_bool (by rw [e.out, if_pos (by unfold ind; simp [*])]), Below.refl _ _⟩
        | exact ⟨ret_bool (by rw [e.out, if_neg (by unfold ind; simp [*])]), hB⟩

set_option maxRecDepth 100000 in
theorem plain_row (w : World) (b n cap k : Nat) (c : Int) (z : Nat → Int) (hk : k < n) (hn : n ≤ 2097152) (hr : w.rowIs b 5 n (fun i => .int .u8 (z i))) (hz : ∀ i, 0 ≤ z i ∧ z i ≤ 255) :
    Calls Try.prog 12 #[.slice (some ⟨b, 0, none⟩) n cap, .int .i64 k, .int .u8 c] w fun e w' => e = .returned (.bool (spl z n k c)) ∧ w = w' := by
  have D0 := space_row w b n n cap k z hr (Nat.le_refl _) hn hz
  have D1 := space_row w b n n cap (k + 1) z hr (Nat.le_refl _) hn hz
  rw [Int.natCast_add] at D1
  clear hr
  by_cases h45 : c = 45
  · go_enter Try.func12, Try.ntmps12
    go_wp2
    go_ret
    exact ⟨ret_bool (by rw [spl, if_pos h45]), rfl⟩
  · by_cases hq : c = 63 ∨ c = 58
    · have e : Hid (spl z n k c = !soe z n (k + 1)) := by rw [spl, if_neg h45, if_pos hq]; rfl
      rcases hq with rfl | rfl
      · go_enter Try.func12, Try.ntmps12
        go_wp2_with (first | (go_at_call 24; refine D1.mono ?_; rintro e w' ⟨rfl, rfl⟩))
        go_ret
        exact ⟨ret_bool e.out.symm, rfl⟩
      · go_enter Try.func12, Try.ntmps12
        go_wp2_with (first | (go_at_call 24; refine D1.mono ?_; rintro e w' ⟨rfl, rfl⟩))
        go_ret
        exact ⟨ret_bool e.out.symm, rfl⟩
    · have h63 : (c == 63) = false := beq_eq_false_iff_ne.2 fun h => hq (.inl h)
      have h58 : (c == 58) = false := beq_eq_false_iff_ne.2 fun h => hq (.inr h)
      cases hi : ind c with
      | true =>
        have e : Hid (spl z n k c = false) := by rw [spl, if_neg h45, if_neg hq, if_pos hi]; rfl
        have D2 := ind_any c w
        rw [hi] at D2
        clear hi
        go_enter Try.func12, Try.ntmps12
        go_wp2_with (first | (go_at_call 25; refine D2.mono ?_; rintro e w' ⟨rfl, rfl⟩))
        go_ret
        exact ⟨ret_bool e.out.symm, rfl⟩
      | false =>
        have e : Hid (spl z n k c = !soe z n k) := by rw [spl, if_neg h45, if_neg hq, if_neg (by rw [hi]; simp)]; rfl
        have D2 := ind_any c w
        rw [hi] at D2
        clear hi
        go_enter Try.func12, Try.ntmps12
        go_wp2_with (first | (go_at_call 25; refine D2.mono ?_; rintro e w' ⟨rfl, rfl⟩) | (go_at_call 24; refine D0.mono ?_; rintro e w' ⟨rfl, rfl⟩))
        go_ret
        exact ⟨ret_bool e.out.symm, rfl⟩

set_option maxRecDepth 100000 in
theorem zstarts_row (w : World) (b n cap k : Nat) (c : Int) (z : Nat → Int) (hk : k < n) (hn : n ≤ 2097152) (hr : w.rowIs b 5 n (fun i => .int .u8 (z i))) :
    Calls Try.prog 11 #[.slice (some ⟨b, 0, none⟩) n cap, .int .i64 k, .int .u8 c] w fun e w' => e = .returned (.bool (spl z n k c)) ∧ Below w.heap.size w w' := by
  go_enter Try.func11, Try.ntmps11
  go_wp2_with (first | (go_at_call 23; refine (starts_row _ w.heap.size b n cap k c z ⟨by simp, by simp⟩ hk hn (hr.alloc _)).mono ?_; rintro e w' ⟨rfl, hB⟩))
  go_ret
  exact ⟨rfl, ((Below.refl _ _).alloc (Nat.le_refl _) _).trans (hB.mono (by simp))⟩

end Go.Proofs.Qxb6619931a

/- Contracts of breakAt, ZZbreakAt, decodeAt, isBreakCodePoint, lineBreakModel. -/
import Derived.Test.Qxb6619931aPlain
import Derived.ProofKit
import Derived.OpenShut
import Derived.ShutString
import Derived.WalkLawsBesides
import Derived.WalkSpells
namespace Go.Proofs.Qxb6619931a
open Go.ChangeShapes Go.WideShapes Go.ChangeAt Go.RowKit

theorem ret_int {k : IntKind} {a b : Int} (h : a = b) : Ending.returned (.int k a) = .returned (.int k b) := by rw [h]

set_option maxRecDepth 100000 in
set_option maxHeartbeats 400000 in
theorem dec_any (b off n cap k : Nat) (z : Nat → Int) (w : World) (hn : n ≤ 2097152) (hk : k < n)
    (hcell : ∀ i, i < n → w.cell? ⟨b, off + i, none⟩ = some (.int .u8 (z i))) (hz : ∀ i, 0 ≤ z i ∧ z i ≤ 255) :
    Calls Try.prog 21 #[.slice (some ⟨b, off, none⟩) n cap, .int .i64 k] w fun e w' => (∃ cp wd : Int, e = .returned (.tuple #[.int .i64 cp, .int .i64 wd]) ∧ DecP z n k cp wd) ∧ w = w' := by
  have c0 := hcell k hk
  have z0 := hz k
  have z1 := hz (k + 1)
  have z2 := hz (k + 2)
  by_cases h1 : k + 1 < n
  · have c1 := hcell _ h1
    by_cases h2 : k + 2 < n
    · have c2 := hcell _ h2
      clear hcell hz
      go_enter Try.func21, Try.ntmps21
      go_wp2
      all_goals (go_ret2; refine ⟨⟨_, _, rfl, ?_⟩, rfl⟩)
      all_goals try simp only [beq_iff_eq, beq_eq_false_iff_ne] at *
      all_goals first | exact decP_one (by omega) | exact decP_none (by omega) (by omega) (by omega) | exact decP_two h1 (by omega) (by omega) (by omega) (by omega) | exact decP_three h2 (by omega) (by omega) (by omega) (by omega) (by omega) (by omega) (by omega)
    · clear hcell hz
      go_enter Try.func21, Try.ntmps21
      go_wp2
      all_goals (go_ret2; refine ⟨⟨_, _, rfl, ?_⟩, rfl⟩)
      all_goals first | exact decP_one (by omega) | exact decP_none (by omega) (by omega) (by omega) | exact decP_two h1 (by omega) (by omega) (by omega) (by omega)
  · clear hcell hz
    go_enter Try.func21, Try.ntmps21
    go_wp2
    all_goals (go_ret2; refine ⟨⟨_, _, rfl, ?_⟩, rfl⟩)
    all_goals first | exact decP_one (by omega) | exact decP_none (by omega) (by omega) (by omega)

theorem isbrk_any (cp : Int) (w : World) :
    Calls Try.prog 22 #[.int .i64 cp] w fun e w' => e = .returned (.bool (brkCp cp)) ∧ w = w' := by
  go_enter Try.func22, Try.ntmps22
  go_wp2
  all_goals (go_ret; refine ⟨?_, rfl⟩)
  all_goals (unfold brkCp; simp [*])

set_option maxRecDepth 100000 in
theorem next_any (B o : Nat) (C o' : Nat) (b off n cap k : Nat) (d : Int) (z : Nat → Int) (w : World) (hn : n ≤ 2097152) (hk : k < n) (h0 : 0 ≤ d) (hd : d ≤ 2)
    (hi : w.cell? ⟨B, o, none⟩ = some (.int .i64 k)) (ht : w.cell? ⟨C, o', none⟩ = some (.slice (some ⟨b, off, none⟩) n cap))
    (hcell : ∀ i, i < n → w.cell? ⟨b, off + i, none⟩ = some (.int .u8 (z i))) :
    Calls Try.prog 27 #[.int .i64 d, .pointer (some ⟨B, o, none⟩), .pointer (some ⟨C, o', none⟩)] w fun e w' => e = .returned (.int .u8 (nx z n (k + d.toNat))) ∧ w = w' := by
  obtain ⟨d, rfl⟩ := Int.eq_ofNat_of_zero_le h0
  by_cases h : k + d < n
  · have c := hcell _ h
    clear hcell
    go_enter Try.func27, Try.ntmps27
    go_wp2
    go_ret
    exact ⟨ret_int (by rw [nx, if_pos (by simpa using h)]; simp), rfl⟩
  · clear hcell
    go_enter Try.func27, Try.ntmps27
    go_wp2
    go_ret
    exact ⟨ret_int (by rw [nx, if_neg (by simpa using h)]), rfl⟩

theorem lbm_past (a : Option Addr) (n cap : Nat) (i : Int) (w : World) (h : (n : Int) ≤ i) :
    Calls Try.prog 8 #[.slice a n cap, .int .i64 i] w fun e w' => e = .returned (.int .i64 0) ∧ w = w' := by
  go_enter Try.func8, Try.ntmps8
  go_wp2
  go_ret
  exact ⟨rfl, rfl⟩

set_option maxRecDepth 100000 in
theorem lbm_any (b off n cap k : Nat) (z : Nat → Int) (w : World) (hn : n ≤ 2097152) (hk : k < n)
    (hcell : ∀ i, i < n → w.cell? ⟨b, off + i, none⟩ = some (.int .u8 (z i))) (hz : ∀ i, 0 ≤ z i ∧ z i ≤ 255) :
    Calls Try.prog 8 #[.slice (some ⟨b, off, none⟩) n cap, .int .i64 k] w fun e w' => e = .returned (.int .i64 (brk z n k)) ∧ w = w' := by
  have D := dec_any b off n cap k z w hn hk hcell hz
  by_cases h1 : k + 1 < n
  · have c1 := hcell _ h1
    clear hcell
    go_enter Try.func8, Try.ntmps8
    go_wp2_with (first | (go_at_call 21; refine D.mono ?_; rintro e w' ⟨⟨cp, wd, rfl, hD⟩, rfl⟩) | (go_at_call 22; refine (isbrk_any _ _).mono ?_; rintro e w' ⟨rfl, rfl⟩))
    all_goals go_ret
    all_goals first
      | exact ⟨ret_int (brk_crlf hD (by omega) h1 (by simpa using ‹(z (k + 1) == 10) = true›)).symm, rfl⟩
      | exact ⟨ret_int (brk_no hk hD ‹brkCp cp = false›).symm, rfl⟩
      | exact ⟨ret_int (brk_yes hk hD (by rintro ⟨a, b, c⟩; first | omega | simp_all) (by first | assumption | (rw [‹cp = 13›]; assumption))).symm, rfl⟩

  · clear hcell
    go_enter Try.func8, Try.ntmps8
    go_wp2_with (first | (go_at_call 21; refine D.mono ?_; rintro e w' ⟨⟨cp, wd, rfl, hD⟩, rfl⟩) | (go_at_call 22; refine (isbrk_any _ _).mono ?_; rintro e w' ⟨rfl, rfl⟩))
    all_goals go_ret
    all_goals first
      | exact ⟨ret_int (brk_no hk hD ‹brkCp cp = false›).symm, rfl⟩
      | exact ⟨ret_int (brk_yes hk hD (by rintro ⟨a, b, c⟩; first | omega | simp_all) (by first | assumption | (rw [‹cp = 13›]; assumption))).symm, rfl⟩

theorem brk_past_any (a : Option Addr) (n cap : Nat) (i : Int) (w : World) (h : (n : Int) ≤ i) :
    Calls Try.prog 7 #[.slice a n cap, .int .i64 i] w fun e w' => e = .returned (.int .i64 0) ∧ Below w.heap.size w w' := by
  go_enter Try.func7, Try.ntmps7
  go_wp2
  go_ret
  exact ⟨rfl, ((Below.refl _ _).alloc (Nat.le_refl _) _).alloc (by simp) _⟩


theorem nx_eq (z : Nat → Int) (n k : Nat) (c : Int) (hc : c ≠ 0) : nx z n k = c ↔ k < n ∧ z k = c := by
  unfold nx
  by_cases h : k < n
  · rw [if_pos h]; exact ⟨fun q => ⟨h, q⟩, fun q => q.2⟩
  · rw [if_neg h]; exact ⟨fun q => absurd q.symm hc, fun q => absurd q.1 h⟩

theorem brk_cell (z : Nat → Int) (n k : Nat) (hk : k < n) : brk z n k = if z k = 10 then 1 else if z k = 13 then (if nx z n (k + 1) = 10 then 2 else 1) else
    if z k = 194 then (if nx z n (k + 1) = 133 then 2 else 0) else if z k = 226 then (if nx z n (k + 1) = 128 ∧ (nx z n (k + 2) = 168 ∨ nx z n (k + 2) = 169) then 3 else 0) else 0 := by
  have e : (nx z n (k + 1) = 128 ∧ (nx z n (k + 2) = 168 ∨ nx z n (k + 2) = 169)) ↔ (k + 2 < n ∧ z (k + 1) = 128 ∧ (z (k + 2) = 168 ∨ z (k + 2) = 169)) := by
    rw [nx_eq _ _ _ _ (by omega), nx_eq _ _ _ _ (by omega), nx_eq _ _ _ _ (by omega)]
    omega
  unfold brk
  rw [if_neg (by omega)]
  simp only [e, nx_eq z n (k + 1) 10 (by omega), nx_eq z n (k + 1) 133 (by omega)]

set_option maxRecDepth 100000 in
set_option maxHeartbeats 400000 in
theorem brk_any (b off n cap k : Nat) (z : Nat → Int) (w : World) (hn : n ≤ 2097152) (hk : k < n)
    (hcell : ∀ i, i < n → w.cell? ⟨b, off + i, none⟩ = some (.int .u8 (z i))) :
    Calls Try.prog 20 #[.slice (some ⟨b, off, none⟩) n cap, .int .i64 k] w fun e w' => e = .returned (.int .i64 (brk z n k)) ∧ Below w.heap.size w w' := by
  have hcell2 : ∀ i, i < n → ((w.alloc (.cells #[.slice (some ⟨b, off, none⟩) n cap] 22)).alloc (.cells #[.int .i64 k] 3)).cell? ⟨b, off + i, none⟩ = some (.int .u8 (z i)) :=
    fun i hi => cell_later (((Below.refl _ _).alloc (Nat.le_refl _) _).alloc (by simp) _) (hcell i hi)
  have hc0 := hcell2 k hk
  clear hcell
  go_enter Try.func20, Try.ntmps20
  go_wp2_with (first | (go_at_call 27; refine (next_any _ _ _ _ b off n cap k _ z _ hn hk (by omega) (by omega) (by simp) (by simp) hcell2).mono ?_; rintro e w' ⟨rfl, rfl⟩))
  all_goals (go_ret; refine ⟨ret_int ?_, ((Below.refl _ _).alloc (Nat.le_refl _) _).alloc (by simp) _⟩)
  all_goals rw [brk_cell z n k hk]
  all_goals simp only [beq_iff_eq, beq_eq_false_iff_ne] at *
  all_goals first | (simp [*]; done) | (simp [*]; omega)

theorem zbrk_any (b off n cap k : Nat) (z : Nat → Int) (w : World) (hn : n ≤ 2097152) (hk : k < n)
    (hcell : ∀ i, i < n → w.cell? ⟨b, off + i, none⟩ = some (.int .u8 (z i))) :
    Calls Try.prog 7 #[.slice (some ⟨b, off, none⟩) n cap, .int .i64 k] w fun e w' => e = .returned (.int .i64 (brk z n k)) ∧ Below w.heap.size w w' := by
  have D := brk_any b off n cap k z w hn hk hcell
  clear hcell
  go_enter Try.func7, Try.ntmps7
  go_wp2_with (first | (go_at_call 20; refine D.mono ?_; rintro e w' ⟨rfl, hb⟩))
  go_ret
  exact ⟨rfl, hb⟩

end Go.Proofs.Qxb6619931a

/- Plain mathematics of seat b6619931a: bits of an int, the line break at a place, what a decoded code point says. No walk here. -/
import Derived.Test.Qxb6619931aRows
import Derived.WalkKit
namespace Go.Proofs.Qxb6619931a
open Go.RowKit

theorem ofInt_i64 (a : Nat) (ha : a < 9223372036854775808) : (BitVec.ofInt 64 (a : Int)).toNat = a := by
  rw [BitVec.ofInt_natCast, BitVec.toNat_ofNat]; exact Nat.mod_eq_of_lt (by omega)
theorem wrap_small (n : Nat) (h : n < 9223372036854775808) : IntKind.i64.wrap (n : Int) = n := by
  simp only [IntKind.wrap, IntKind.bits, IntKind.signed]
  simp
  omega
theorem i64_and_nat (a b : Nat) (ha : a < 9223372036854775808) (hb : b < 9223372036854775808) : bits .and .i64 (a : Int) (b : Int) = ((a &&& b : Nat) : Int) := by
  have hx : a &&& b < 2 ^ 63 := Nat.and_lt_two_pow _ (by omega)
  show IntKind.i64.wrap ((BitVec.ofInt 64 (a : Int) &&& BitVec.ofInt 64 (b : Int)).toNat : Int) = _
  rw [BitVec.toNat_and, ofInt_i64 a ha, ofInt_i64 b hb, wrap_small _ (by omega)]
theorem i64_or_nat (a b : Nat) (ha : a < 9223372036854775808) (hb : b < 9223372036854775808) : bits .or .i64 (a : Int) (b : Int) = ((a ||| b : Nat) : Int) := by
  have hx : a ||| b < 2 ^ 63 := Nat.or_lt_two_pow (by omega) (by omega)
  show IntKind.i64.wrap ((BitVec.ofInt 64 (a : Int) ||| BitVec.ofInt 64 (b : Int)).toNat : Int) = _
  rw [BitVec.toNat_or, ofInt_i64 a ha, ofInt_i64 b hb, wrap_small _ (by omega)]
theorem join (i x y : Nat) (hx : x % 2 ^ i = 0) (hy : y < 2 ^ i) : x ||| y = x + y := by
  have hq : x = 2 ^ i * (x / 2 ^ i) := by
    have := Nat.div_add_mod x (2 ^ i)
    omega
  rw [hq, ← Nat.two_pow_add_eq_or_of_lt hy (x / 2 ^ i)]

theorem and31 (x : Int) (h0 : 0 ≤ x) (h1 : x ≤ 255) : bits BinOp.and IntKind.i64 x 31 = x % 32 := by
  obtain ⟨A, rfl⟩ := Int.eq_ofNat_of_zero_le h0
  have := i64_and_nat A 31 (by omega) (by omega)
  rw [show A &&& 31 = A % 32 from Nat.and_two_pow_sub_one_eq_mod A 5] at this
  simpa using this
theorem and15 (x : Int) (h0 : 0 ≤ x) (h1 : x ≤ 255) : bits BinOp.and IntKind.i64 x 15 = x % 16 := by
  obtain ⟨A, rfl⟩ := Int.eq_ofNat_of_zero_le h0
  have := i64_and_nat A 15 (by omega) (by omega)
  rw [show A &&& 15 = A % 16 from Nat.and_two_pow_sub_one_eq_mod A 4] at this
  simpa using this
theorem and63 (x : Int) (h0 : 0 ≤ x) (h1 : x ≤ 255) : bits BinOp.and IntKind.i64 x 63 = x % 64 := by
  obtain ⟨A, rfl⟩ := Int.eq_ofNat_of_zero_le h0
  have := i64_and_nat A 63 (by omega) (by omega)
  rw [show A &&& 63 = A % 64 from Nat.and_two_pow_sub_one_eq_mod A 6] at this
  simpa using this
theorem or_join6 (x y : Int) (h0 : 0 ≤ x) (h1 : x < 1048576) (h2 : x % 64 = 0) (h3 : 0 ≤ y) (h4 : y < 64) : bits BinOp.or IntKind.i64 x y = x + y := by
  obtain ⟨A, rfl⟩ := Int.eq_ofNat_of_zero_le h0
  obtain ⟨B, rfl⟩ := Int.eq_ofNat_of_zero_le h3
  rw [i64_or_nat A B (by omega) (by omega), join 6 A B (by omega) (by omega)]; simp
theorem or_join12 (x y : Int) (h0 : 0 ≤ x) (h1 : x < 1048576) (h2 : x % 4096 = 0) (h3 : 0 ≤ y) (h4 : y < 4096) : bits BinOp.or IntKind.i64 x y = x + y := by
  obtain ⟨A, rfl⟩ := Int.eq_ofNat_of_zero_le h0
  obtain ⟨B, rfl⟩ := Int.eq_ofNat_of_zero_le h3
  rw [i64_or_nat A B (by omega) (by omega), join 12 A B (by omega) (by omega)]; simp

/-- Two bytes of UTF-8 as decodeAt reckons them. -/
theorem two_bytes (x y : Int) (h1 : 194 ≤ x) (h2 : x < 224) (h3 : 128 ≤ y) (h4 : y ≤ 191) :
    bits BinOp.or IntKind.i64 (wrap64 (bits BinOp.and IntKind.i64 x 31 * 64)) (bits BinOp.and IntKind.i64 y 63) = (x - 192) * 64 + (y - 128) := by
  rw [and31 x (by omega) (by omega), and63 y (by omega) (by omega), IntWalk.wrap64_in _ ⟨by omega, by omega⟩, or_join6 _ _ (by omega) (by omega) (by omega) (by omega) (by omega)]
  omega
/-- Three bytes of UTF-8 as decodeAt reckons them. -/
theorem three_bytes (x y u : Int) (h1 : 224 ≤ x) (h2 : x < 240) (h3 : 128 ≤ y) (h4 : y ≤ 191) (h5 : 128 ≤ u) (h6 : u ≤ 191) :
    bits BinOp.or IntKind.i64 (bits BinOp.or IntKind.i64 (wrap64 (bits BinOp.and IntKind.i64 x 15 * 4096)) (wrap64 (bits BinOp.and IntKind.i64 y 63 * 64))) (bits BinOp.and IntKind.i64 u 63)
      = (x - 224) * 4096 + (y - 128) * 64 + (u - 128) := by
  have e : bits BinOp.or IntKind.i64 (x % 16 * 4096) (y % 64 * 64) = x % 16 * 4096 + y % 64 * 64 := or_join12 _ _ (by omega) (by omega) (by omega) (by omega) (by omega)
  rw [and15 x (by omega) (by omega), and63 y (by omega) (by omega), and63 u (by omega) (by omega), IntWalk.wrap64_in _ ⟨by omega, by omega⟩, IntWalk.wrap64_in _ ⟨by omega, by omega⟩, e,
    or_join6 _ _ (by omega) (by omega) (by omega) (by omega) (by omega)]
  omega

/-- The byte at k of a text of n bytes, 0 past it. -/
def nx (z : Nat → Int) (n k : Nat) : Int := if k < n then z k else 0

/-- The length of the line break that starts at k. -/
def brk (z : Nat → Int) (n k : Nat) : Int :=
  if n ≤ k then 0 else
  if z k = 10 then 1 else
  if z k = 13 then (if k + 1 < n ∧ z (k + 1) = 10 then 2 else 1) else
  if z k = 194 then (if k + 1 < n ∧ z (k + 1) = 133 then 2 else 0) else
  if z k = 226 then (if k + 2 < n ∧ z (k + 1) = 128 ∧ (z (k + 2) = 168 ∨ z (k + 2) = 169) then 3 else 0) else 0

/-- What is known of decodeAt's answer: enough for the laws. -/
def DecP (z : Nat → Int) (n k : Nat) (cp wd : Int) : Prop :=
  (z k < 128 ∧ cp = z k ∧ wd = 1) ∨
  (128 ≤ z k ∧ z k = 194 ∧ k + 1 < n ∧ z (k + 1) = 133 ∧ cp = 133 ∧ wd = 2) ∨
  (128 ≤ z k ∧ z k = 226 ∧ k + 2 < n ∧ z (k + 1) = 128 ∧ z (k + 2) = 168 ∧ cp = 8232 ∧ wd = 3) ∨
  (128 ≤ z k ∧ z k = 226 ∧ k + 2 < n ∧ z (k + 1) = 128 ∧ z (k + 2) = 169 ∧ cp = 8233 ∧ wd = 3) ∨
  (128 ≤ z k ∧ (cp = -1 ∨ 128 ≤ cp) ∧ cp ≠ 133 ∧ cp ≠ 8232 ∧ cp ≠ 8233 ∧ ¬ (z k = 194 ∧ k + 1 < n ∧ z (k + 1) = 133) ∧
    ¬ (z k = 226 ∧ k + 2 < n ∧ z (k + 1) = 128 ∧ (z (k + 2) = 168 ∨ z (k + 2) = 169)))

theorem decP_one {z : Nat → Int} {n k : Nat} (h : z k < 128) : DecP z n k (z k) 1 := .inl ⟨h, rfl, rfl⟩
theorem decP_none {z : Nat → Int} {n k : Nat} (h : 128 ≤ z k) (h1 : ¬ (z k = 194 ∧ k + 1 < n ∧ z (k + 1) = 133)) (h2 : ¬ (z k = 226 ∧ k + 2 < n ∧ z (k + 1) = 128 ∧ (z (k + 2) = 168 ∨ z (k + 2) = 169))) : DecP z n k (-1) 1 :=
  .inr (.inr (.inr (.inr ⟨h, .inl rfl, by omega, by omega, by omega, h1, h2⟩)))
theorem decP_two {z : Nat → Int} {n k : Nat} (h0 : k + 1 < n) (h1 : 194 ≤ z k) (h2 : z k < 224) (h3 : 128 ≤ z (k + 1)) (h4 : z (k + 1) ≤ 191) :
    DecP z n k (bits BinOp.or IntKind.i64 (wrap64 (bits BinOp.and IntKind.i64 (z k) 31 * 64)) (bits BinOp.and IntKind.i64 (z (k + 1)) 63)) 2 := by
  rw [two_bytes _ _ h1 h2 h3 h4]
  unfold DecP
  by_cases h : z k = 194 ∧ z (k + 1) = 133
  · exact .inr (.inl ⟨by omega, h.1, h0, h.2, by omega, rfl⟩)
  · exact .inr (.inr (.inr (.inr ⟨by omega, .inr (by omega), by omega, by omega, by omega, by omega, by omega⟩)))
theorem decP_three {z : Nat → Int} {n k : Nat} (h0 : k + 2 < n) (h1 : 224 ≤ z k) (h2 : z k < 240) (h3 : 128 ≤ z (k + 1)) (h4 : z (k + 1) ≤ 191) (h5 : 128 ≤ z (k + 2)) (h6 : z (k + 2) ≤ 191) (h7 : z k = 224 → 160 ≤ z (k + 1)) :
    DecP z n k (bits BinOp.or IntKind.i64 (bits BinOp.or IntKind.i64 (wrap64 (bits BinOp.and IntKind.i64 (z k) 15 * 4096)) (wrap64 (bits BinOp.and IntKind.i64 (z (k + 1)) 63 * 64))) (bits BinOp.and IntKind.i64 (z (k + 2)) 63)) 3 := by
  rw [three_bytes _ _ _ h1 h2 h3 h4 h5 h6]
  unfold DecP
  by_cases h : z k = 226 ∧ z (k + 1) = 128 ∧ z (k + 2) = 168
  · exact .inr (.inr (.inl ⟨by omega, h.1, h0, h.2.1, h.2.2, by omega, rfl⟩))
  · by_cases h' : z k = 226 ∧ z (k + 1) = 128 ∧ z (k + 2) = 169
    · exact .inr (.inr (.inr (.inl ⟨by omega, h'.1, h0, h'.2.1, h'.2.2, by omega, rfl⟩)))
    · exact .inr (.inr (.inr (.inr ⟨by omega, .inr (by omega), by omega, by omega, by omega, by omega, by omega⟩)))

/-- isBreakCodePoint. -/
def brkCp (cp : Int) : Bool := cp == 10 || cp == 13 || cp == 133 || cp == 8232 || cp == 8233

theorem brk_past {z : Nat → Int} {n k : Nat} (h : n ≤ k) : brk z n k = 0 := if_pos h

theorem brk_crlf {z : Nat → Int} {n k : Nat} {cp wd : Int} (h : DecP z n k cp wd) (h1 : cp = 13) (h2 : k + 1 < n) (h3 : z (k + 1) = 10) : brk z n k = 2 := by
  have : z k = 13 := by unfold DecP at h; omega
  unfold brk
  rw [if_neg (by omega), if_neg (by omega), if_pos this, if_pos ⟨h2, h3⟩]
theorem brk_yes {z : Nat → Int} {n k : Nat} (hk : k < n) {cp wd : Int} (h : DecP z n k cp wd) (h1 : ¬ (cp = 13 ∧ k + 1 < n ∧ z (k + 1) = 10)) (h2 : brkCp cp = true) : brk z n k = wd := by
  simp only [brkCp, Bool.or_eq_true, beq_iff_eq] at h2
  unfold brk
  rw [if_neg (by omega)]
  rcases h with ⟨a, rfl, rfl⟩ | ⟨_, a, b, c, rfl, rfl⟩ | ⟨_, a, b, c, d, rfl, rfl⟩ | ⟨_, a, b, c, d, rfl, rfl⟩ | ⟨a, b, c, d, e, f⟩
  · by_cases h3 : z k = 10
    · rw [if_pos h3]
    · rw [if_neg h3, if_pos (by omega), if_neg (by omega)]
  · rw [if_neg (by omega), if_neg (by omega), if_pos a, if_pos ⟨b, c⟩]
  · rw [if_neg (by omega), if_neg (by omega), if_neg (by omega), if_pos a, if_pos ⟨b, c, .inl d⟩]
  · rw [if_neg (by omega), if_neg (by omega), if_neg (by omega), if_pos a, if_pos ⟨b, c, .inr d⟩]
  · omega
theorem brk_no {z : Nat → Int} {n k : Nat} (hk : k < n) {cp wd : Int} (h : DecP z n k cp wd) (h2 : brkCp cp = false) : brk z n k = 0 := by
  simp only [brkCp, Bool.or_eq_false_iff, beq_eq_false_iff_ne, ne_eq] at h2
  obtain ⟨⟨⟨⟨g1, g2⟩, g3⟩, g4⟩, g5⟩ := h2
  unfold brk
  rw [if_neg (by omega)]
  rcases h with ⟨a, rfl, rfl⟩ | ⟨_, a, b, c, rfl, rfl⟩ | ⟨_, a, b, c, d, rfl, rfl⟩ | ⟨_, a, b, c, d, rfl, rfl⟩ | ⟨a, b, c, d, e, f, g⟩
  · rw [if_neg g1, if_neg g2, if_neg (by omega), if_neg (by omega)]
  · omega
  · omega
  · omega
  · rw [if_neg (by omega), if_neg (by omega)]
    by_cases h3 : z k = 194
    · rw [if_pos h3, if_neg fun q => f ⟨h3, q⟩]
    · rw [if_neg h3]
      by_cases h4 : z k = 226
      · rw [if_pos h4, if_neg fun q => g ⟨h4, q⟩]
      · rw [if_neg h4]

theorem brk_bd (z : Nat → Int) (n k : Nat) (hk : k < n) : 0 ≤ brk z n k ∧ brk z n k ≤ 3 ∧ k + brk z n k ≤ n := by
  unfold brk
  rw [if_neg (by omega)]
  repeat' split
  all_goals omega

end Go.Proofs.Qxb6619931a

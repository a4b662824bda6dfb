/- Laws of breakAt over joined and cut texts; the copy of a text; breakAt and lineBreakModel over a row of the call's own. -/
import Derived.Test.Qxb6619931aJoin
import Derived.Sort.AtCall
namespace Go.Proofs.Qxb6619931a
open Go.ChangeShapes Go.WideShapes Go.ChangeAt Go.RowKit

/-! ### the plain laws -/
theorem brk_join (n0 n1 k : Nat) (z0 z1 : Nat → Int) : brk (jn n0 z0 z1) (n0 + n1) (n0 + k) = brk z1 n1 k := by
  have e : ∀ t, jn n0 z0 z1 (n0 + t) = z1 t := fun t => by unfold jn; rw [if_neg (by omega)]; congr 1; omega
  unfold brk
  rw [show n0 + k + 1 = n0 + (k + 1) from rfl, show n0 + k + 2 = n0 + (k + 2) from rfl, e, e, e]
  simp only [Nat.add_le_add_iff_left, Nat.add_lt_add_iff_left]

theorem brk_cut (n k m : Nat) (z : Nat → Int) (hk : k < n) (hm : (m : Int) = k + brk z n k) : brk z m k = brk z n k := by
  have hb := brk_bd z n k hk
  by_cases h0 : brk z n k = 0
  · rw [h0]; exact brk_past (by omega)
  · generalize hB : brk z n k = B at *
    unfold brk at hB ⊢
    rw [if_neg (by omega)] at hB ⊢
    by_cases h1 : z k = 10
    · rw [if_pos h1] at hB ⊢; exact hB
    · rw [if_neg h1] at hB ⊢
      by_cases h2 : z k = 13
      · rw [if_pos h2] at hB ⊢
        by_cases h3 : k + 1 < n ∧ z (k + 1) = 10
        · rw [if_pos h3] at hB; rw [if_pos ⟨by omega, h3.2⟩]; exact hB
        · rw [if_neg h3] at hB; rw [if_neg (by omega)]; exact hB
      · rw [if_neg h2] at hB ⊢
        by_cases h4 : z k = 194
        · rw [if_pos h4] at hB ⊢
          by_cases h3 : k + 1 < n ∧ z (k + 1) = 133
          · rw [if_pos h3] at hB; rw [if_pos ⟨by omega, h3.2⟩]; exact hB
          · rw [if_neg h3] at hB; omega
        · rw [if_neg h4] at hB ⊢
          by_cases h5 : z k = 226
          · rw [if_pos h5] at hB ⊢
            by_cases h3 : k + 2 < n ∧ z (k + 1) = 128 ∧ (z (k + 2) = 168 ∨ z (k + 2) = 169)
            · rw [if_pos h3] at hB; rw [if_pos ⟨by omega, h3.2⟩]; exact hB
            · rw [if_neg h3] at hB; omega
          · rw [if_neg h5] at hB; omega

/-! ### what lies in memory -/
theorem Lies.later {w w' : World} (hb : Below w.heap.size w w') {a : Option Addr} {n : Nat} {z : Nat → Int} (h : Lies w a n z) : Lies w' a n z := by
  rcases h with h | ⟨b, off, ha, hc⟩
  · exact .inl h
  · exact .inr ⟨b, off, ha, fun i hi => cell_later hb (hc i hi)⟩
theorem Lies.row {w : World} {b N n : Nat} {z : Nat → Int} (h : w.rowIs b 5 N (fun i => .int .u8 (z i))) (hn : n ≤ N) : Lies w (some ⟨b, 0, none⟩) n z :=
  .inr ⟨b, 0, rfl, fun i hi => by rw [Nat.zero_add]; exact h.cell (by omega)⟩

/-- breakAt at whatever place of a row. -/
theorem zbrk_row (w : World) (b N n cap k : Nat) (z : Nat → Int) (h : w.rowIs b 5 N (fun i => .int .u8 (z i))) (hn : n ≤ N) (hN : N ≤ 2097152) :
    Calls Try.prog 7 #[.slice (some ⟨b, 0, none⟩) n cap, .int .i64 k] w fun e w' => e = .returned (.int .i64 (brk z n k)) ∧ Below w.heap.size w w' := by
  by_cases hk : k < n
  · exact zbrk_any b 0 n cap k z w (by omega) hk (fun i hi => by rw [Nat.zero_add]; exact h.cell (by omega))
  · rw [brk_past (by omega)]
    exact brk_past_any _ _ _ _ _ (by omega)
theorem lbm_row (w : World) (b N n cap k : Nat) (z : Nat → Int) (h : w.rowIs b 5 N (fun i => .int .u8 (z i))) (hn : n ≤ N) (hN : N ≤ 2097152) (hz : ∀ i, 0 ≤ z i ∧ z i ≤ 255) :
    Calls Try.prog 8 #[.slice (some ⟨b, 0, none⟩) n cap, .int .i64 k] w fun e w' => e = .returned (.int .i64 (brk z n k)) ∧ w = w' := by
  by_cases hk : k < n
  · exact lbm_any b 0 n cap k z w (by omega) hk (fun i hi => by rw [Nat.zero_add]; exact h.cell (by omega)) hz
  · rw [brk_past (by omega)]
    exact lbm_past _ _ _ _ _ (by omega)

theorem Try.size5 : (Try.prog.info? 5).map (·.size) = some 1 := by kernel_rfl

/-- The new row behind 'copy' of a whole text. -/
def bytes (n : Nat) (z : Nat → Int) : List Value := (List.range n).map fun i => .int .u8 (z i)
def zeros (n : Nat) : List Value := (madeCells #[.int .u8 0] n).toList
theorem bytes_length (n : Nat) (z : Nat → Int) : (bytes n z).length = n := by simp [bytes]
theorem zeros_length (n : Nat) : (zeros n).length = n := by simp [zeros, size_madeCells]
theorem zeros_at (w : World) (n : Nat) : (w.alloc (.cells (madeCells #[.int .u8 0] n) 5)).heap[w.heap.size]? = some (.cells (zeros n).toArray 5 (0, 0)) := by
  rw [zeros, Array.toArray_toList]; exact (MapKept.heap_alloc w _).1
theorem row_of_copy (w2 : World) (g n : Nat) (z : Nat → Int) (h : Hid (w2.heap[g]? = some (.cells (splice (zeros n) 0 (bytes n z)).toArray 5 (0, 0)))) : w2.rowIs g 5 n (fun i => .int .u8 (z i)) := by
  have e : splice (zeros n) 0 (bytes n z) = bytes n z := by
    unfold splice
    rw [List.drop_eq_nil_of_le (by rw [bytes_length, zeros_length]; omega)]; simp
  rw [e] at h
  exact ⟨_, h.out, by simp [bytes_length], fun i hi => by simp [bytes, hi]⟩
theorem add_none (b off j : Nat) : (⟨b, off, none⟩ : Addr).add j = ⟨b, off + j, none⟩ := by
  by_cases h : j = 0
  · subst h; rfl
  · simp [Addr.add, h]
theorem bytes_min (n : Nat) (z : Nat → Int) : (bytes n z).length = Nat.min n n := by rw [bytes_length]; exact (Nat.min_self n).symm
theorem bytes_fit (n : Nat) (z : Nat → Int) : 0 + (bytes n z).length ≤ (zeros n).length := by rw [bytes_length, zeros_length]; omega
theorem bytes_one (n : Nat) (z : Nat → Int) : ∀ v ∈ bytes n z, v.oneCell' = true := by
  intro v hv
  simp only [bytes, List.mem_map] at hv
  obtain ⟨i, _, rfl⟩ := hv
  rfl

/-- 'copy(zzc, text)' into the row that 'make' has just laid. -/
theorem run_copy_text (w : World) (g n c : Nat) (sp : Option Addr) (z : Nat → Int) (hg : w.heap[g]? = some (.cells (zeros n).toArray 5 (0, 0))) (hl : Lies w sp n z) (w0 : World) (hb : Below g w0 w) :
    ∃ W, (Builtin.copy_ #[22, 22] 3 #[.slice (some ⟨g, 0, none⟩) n n, .slice sp n c]).run Try.prog w = .ok (.int .i64 n) W ∧ W.rowIs g 5 n (fun i => .int .u8 (z i)) ∧ Below g w0 W := by
  by_cases h0 : n = 0
  · subst h0
    refine ⟨w, run_copy_none (P := Try.prog) w 22 22 3 5 _ _ 0 0 0 c Try.underlying22 Try.size5 rfl, ⟨_, hg, by simp [zeros_length], fun i hi => absurd hi (by omega)⟩, hb⟩
  · obtain ⟨b, off, rfl, hc⟩ := hl.resolve_left h0
    have hr := run_copy_row (P := Try.prog) w 22 22 3 5 g 0 n n ⟨b, off, none⟩ n c _ 5 (bytes n z) Try.underlying22 Try.size5 hg (bytes_min n z)
      (fun j v hv => by
        have hj : j < n := by simpa [bytes_length] using (List.getElem?_eq_some_iff.1 hv).1
        have : v = .int .u8 (z j) := by simpa [bytes, hj] using hv.symm
        rw [this, add_none]; exact hc j hj)
      (by simp [bytes_length, zeros_length]) (bytes_one n z)
    rw [bytes_length] at hr
    refine ⟨_, hr, ⟨_, setRow_heap w g _ _ 5 _ hg, by simp [bytes_length, zeros_length], fun i hi => ?_⟩, below_setRow hb (Nat.le_refl _) _⟩
    rw [List.take_zero, List.nil_append, List.drop_eq_nil_of_le (by simp [zeros_length])]
    simp [bytes, hi]

/-- What the walk is told of a slice of bytes that came in (the shell's own words). -/
def IsRow (k : IntKind) (w : World) (a : Option Addr) (len cap : Nat) (zs : List Int) : Prop :=
  (a = none ∧ len = 0 ∧ cap = 0 ∧ zs = []) ∨
  ∃ x, a = some x ∧ len ≤ cap ∧ cap ≤ maxLen ∧ zs.length = cap ∧ (∀ i, i < zs.length → w.cell? (x.add i) = some (.int k (zs.getD i 0))) ∧ ∀ n ∈ zs, (Lit.int k n).wf = true

theorem IsRow.lies {w : World} {a : Option Addr} {len cap : Nat} {zs : List Int} (h : IsRow .u8 w a len cap zs) : Lies w a len (fun i => zs.getD i 0) := by
  rcases h with ⟨_, h, _⟩ | ⟨x, rfl, hl, _, hz, hc, _⟩
  · exact .inl h
  · by_cases h0 : len = 0
    · exact .inl h0
    · obtain ⟨b, off, spot⟩ := x
      have h1 := hc 0 (by omega)
      have hs : spot = none := by simpa [Addr.add] using World.cell?_spot h1
      subst hs
      exact .inr ⟨b, off, rfl, fun i hi => by rw [← add_none]; exact hc i (by omega)⟩
theorem IsRow.len {w : World} {a : Option Addr} {len cap : Nat} {zs : List Int} (h : IsRow .u8 w a len cap zs) : len ≤ 9223372036854775807 := by
  rcases h with ⟨_, h, _⟩ | ⟨x, _, hl, hm, _⟩
  · omega
  · unfold maxLen at hm; omega
theorem IsRow.bd {w : World} {a : Option Addr} {len cap : Nat} {zs : List Int} (h : IsRow .u8 w a len cap zs) (i : Nat) : 0 ≤ zs.getD i 0 ∧ zs.getD i 0 ≤ 255 := by
  rcases h with ⟨_, _, _, h⟩ | ⟨x, _, _, _, _, _, hw⟩
  · subst h; simp
  · have := range_u8 hw i
    simpa using this

end Go.Proofs.Qxb6619931a

/-
  THE PROOF OF 'Rows.FnAppendLineDumpReadsBackSaid'. The frame (lifted, over, proved) is turned from the given shells to three slices of strings; the walk is Qxb6621651aRead's where the lists are equally long, and walk_long, walk_uneven here.
-/
import Derived.Test.Qxb6621651aRead
import Derived.ChangeOld
import Derived.Below
import Derived.SliceStrings
import Derived.OpenShut
import Derived.ShutString
namespace Go.Proofs.Qxb6621651a.fnAppendLineDumpReadsBack
open Go.ChangeShapes Go.WideShapes Go.ChangeAt Go.RowKit

theorem own : ownKnob Try.prog.godebug = none := by kernel_rfl
theorem laidOut : laidOutB Try.prog = true := by kernel_rfl

/-- WHAT THE WALK IS TOLD OF A SLICE OF STRINGS THAT CAME IN: it is nil; or it leads to a row of 'cap' strings, the first 'len' its elements, none longer than a string may be. -/
def IsRowS (w : World) (a : Option Addr) (len cap : Nat) (ss : List ByteArray) : Prop :=
  (a = none ∧ len = 0 ∧ cap = 0 ∧ ss = []) ∨
  ∃ x, a = some x ∧ len ≤ cap ∧ cap ≤ maxLen ∧ ss.length = cap ∧ (∀ i, i < ss.length → w.cell? (x.add i) = some (.string (ss.getD i ByteArray.empty))) ∧ ∀ s ∈ ss, s.size ≤ maxLen

theorem add_none (b off j : Nat) : (⟨b, off, none⟩ : Addr).add j = ⟨b, off + j, none⟩ := by
  by_cases h : j = 0
  · subst h; rfl
  · simp [Addr.add, h]
theorem IsRowS.lies {w : World} {a : Option Addr} {len cap : Nat} {ss : List ByteArray} (h : IsRowS w a len cap ss) : LiesS w a len (fun i => ss.getD i ByteArray.empty) := by
  rcases h with ⟨_, h, _⟩ | ⟨x, rfl, hl, _, hz, hc, _⟩
  · exact .inl h
  · by_cases h0 : len = 0
    · exact .inl h0
    · obtain ⟨b, off, spot⟩ := x
      have h1 := hc 0 (by omega)
      have hs : spot = none := by simpa [Addr.add] using World.cell?_spot h1
      subst hs
      exact .inr ⟨b, off, rfl, fun i hi => by rw [← add_none]; exact hc i (by omega)⟩
theorem IsRowS.len {w : World} {a : Option Addr} {len cap : Nat} {ss : List ByteArray} (h : IsRowS w a len cap ss) : len ≤ 9223372036854775807 := by
  rcases h with ⟨_, h, _⟩ | ⟨x, _, hl, hm, _⟩
  · omega
  · unfold maxLen at hm; omega
theorem IsRowS.size {w : World} {a : Option Addr} {len cap : Nat} {ss : List ByteArray} (h : IsRowS w a len cap ss) (i : Nat) (hi : i < len) : (ss.getD i ByteArray.empty).size ≤ 9223372036854775807 := by
  rcases h with ⟨_, h, _⟩ | ⟨x, _, hl, _, hz, _, hm⟩
  · omega
  · have h1 : i < ss.length := by omega
    have h2 := hm ss[i] (List.getElem_mem h1)
    unfold maxLen at h2
    simpa [h1] using h2

set_option maxRecDepth 100000 in
/-- A list longer than 65536: the check does not look. -/
theorem walk_long (a0 a1 a2 : Option Addr) (nu cu np cp na ca : Nat) (fu fp fa : Nat → ByteArray) (w : World) (bu : nu ≤ 9223372036854775807) (bp : np ≤ 9223372036854775807) (ba : na ≤ 9223372036854775807)
    (lu : LiesS w a0 nu fu) (lp : LiesS w a1 np fp) (la : LiesS w a2 na fa) (mu : ∀ i, i < nu → (fu i).size ≤ 9223372036854775807) (mp : ∀ i, i < np → (fp i).size ≤ 9223372036854775807) (ma : ∀ i, i < na → (fa i).size ≤ 9223372036854775807)
    (h : 65536 < nu ∨ 65536 < np ∨ 65536 < na) :
    Calls Try.prog 3 #[.slice a0 nu cu, .slice a1 np cp, .slice a2 na ca] w fun e w' => e = .returned (.bool true) ∧ Below w.heap.size w w' := by
  have Z := zzd_any a0 a1 a2 nu cu np cp na ca fu fp fa w bu bp ba lu lp la mu mp ma
  clear lu lp la mu mp ma
  by_cases h1 : 65536 < nu
  · go_enter Try.func3, Try.ntmps3
    go_wp2_with (first | (go_at_call 5; refine Z.mono ?_; rintro e w' ⟨⟨r1, rfl, _⟩, rfl⟩; clear Z))
    all_goals go_ret
    all_goals exact ⟨rfl, Below.refl _ _⟩
  · by_cases h2 : 65536 < np
    · go_enter Try.func3, Try.ntmps3
      go_wp2_with (first | (go_at_call 5; refine Z.mono ?_; rintro e w' ⟨⟨r1, rfl, _⟩, rfl⟩; clear Z))
      all_goals go_ret
      all_goals exact ⟨rfl, Below.refl _ _⟩
    · have h3 : 65536 < na := by omega
      go_enter Try.func3, Try.ntmps3
      go_wp2_with (first | (go_at_call 5; refine Z.mono ?_; rintro e w' ⟨⟨r1, rfl, _⟩, rfl⟩; clear Z))
      all_goals go_ret
      all_goals exact ⟨rfl, Below.refl _ _⟩

set_option maxRecDepth 100000 in
/-- Lists of unequal length: the check does not look. -/
theorem walk_uneven (a0 a1 a2 : Option Addr) (nu cu np cp na ca : Nat) (fu fp fa : Nat → ByteArray) (w : World) (bu : nu ≤ 65536) (bp : np ≤ 65536) (ba : na ≤ 65536)
    (lu : LiesS w a0 nu fu) (lp : LiesS w a1 np fp) (la : LiesS w a2 na fa) (mu : ∀ i, i < nu → (fu i).size ≤ 9223372036854775807) (mp : ∀ i, i < np → (fp i).size ≤ 9223372036854775807) (ma : ∀ i, i < na → (fa i).size ≤ 9223372036854775807)
    (h : np ≠ nu ∨ na ≠ nu) :
    Calls Try.prog 3 #[.slice a0 nu cu, .slice a1 np cp, .slice a2 na ca] w fun e w' => e = .returned (.bool true) ∧ Below w.heap.size w w' := by
  have Z := zzd_any a0 a1 a2 nu cu np cp na ca fu fp fa w (by omega) (by omega) (by omega) lu lp la mu mp ma
  have F := fit_any a0 a1 a2 nu cu np cp na ca fu fp fa w bu bp ba lu lp la mu mp ma
  clear lu lp la mu mp ma
  by_cases h1 : np = nu
  · subst h1
    have h2 : na ≠ np := by omega
    clear h
    have i1 : ((na : Int) == (np : Int)) = false := beq_eq_false_iff_ne.2 (by omega)
    go_enter Try.func3, Try.ntmps3
    go_wp2_with (first
      | (go_at_call 5; refine Z.mono ?_; rintro e w' ⟨⟨r1, rfl, _⟩, rfl⟩; clear Z)
      | (go_at_call 6; refine F.mono ?_; rintro e w' ⟨⟨r2, rfl, _⟩, rfl⟩; clear F))
    all_goals go_ret
    all_goals exact ⟨rfl, Below.refl _ _⟩
  · clear h
    have i1 : ((np : Int) == (nu : Int)) = false := beq_eq_false_iff_ne.2 (by omega)
    go_enter Try.func3, Try.ntmps3
    go_wp2_with (first
      | (go_at_call 5; refine Z.mono ?_; rintro e w' ⟨⟨r1, rfl, _⟩, rfl⟩; clear Z)
      | (go_at_call 6; refine F.mono ?_; rintro e w' ⟨⟨r2, rfl, _⟩, rfl⟩; clear F))
    all_goals go_ret
    all_goals exact ⟨rfl, Below.refl _ _⟩

theorem walk (a0 : Option Addr) (len0 cap0 : Nat) (z0 : List ByteArray) (a1 : Option Addr) (len1 cap1 : Nat) (z1 : List ByteArray) (a2 : Option Addr) (len2 cap2 : Nat) (z2 : List ByteArray) (w : World)
    (w0 : IsRowS w a0 len0 cap0 z0) (w1 : IsRowS w a1 len1 cap1 z1) (w2 : IsRowS w a2 len2 cap2 z2) :
    Calls Try.prog 3 #[.slice a0 len0 cap0, .slice a1 len1 cap1, .slice a2 len2 cap2] w fun e w' => e = .returned (.bool true) ∧ Below w.heap.size w w' := by
  by_cases h : 65536 < len0 ∨ 65536 < len1 ∨ 65536 < len2
  · exact walk_long _ _ _ _ _ _ _ _ _ _ _ _ w w0.len w1.len w2.len w0.lies w1.lies w2.lies w0.size w1.size w2.size h
  · by_cases h2 : len1 ≠ len0 ∨ len2 ≠ len0
    · exact walk_uneven _ _ _ _ _ _ _ _ _ _ _ _ w (by omega) (by omega) (by omega) w0.lies w1.lies w2.lies w0.size w1.size w2.size h2
    · obtain rfl : len1 = len0 := by omega
      obtain rfl : len2 = len1 := by omega
      exact walk_in _ _ _ _ _ _ _ _ _ _ w (by omega) w0.lies w1.lies w2.lies w0.size w1.size w2.size

/-! ### THE ROW's STEP -/
set_option maxRecDepth 100000 in
theorem lifted (os : Os) (started : os.Started) (H : Type) (enc : TypeId × Value → H) :
    ReturnsInHanded {} Try.checked os 3 .any (Rows.fnAppendLineDumpReadsBackSpec.pre6 enc Try.prog Try.f3 Rows.fnAppendLineDumpReadsBackRow.domain false) (Rows.fnAppendLineDumpReadsBackSpec.post enc Try.prog Try.f3 false true false false) := by
  refine returnsInHanded_of_change (C := Try.checked) own started (by kernel_rfl) Try.func3
    (ChangeSpec.witness6 (enc := enc) (C := Try.checked) false ⟨#[], #[.slice none 0 0, .slice none 0 0, .slice none 0 0], []⟩ 8 (by kernel_rfl) (by kernel_rfl) (by kernel_rfl) (by kernel_rfl)) ?_
  intro W base args ds gs before hval0 hW hcnd _
  have hval : ∀ (j : Nat) t v, Try.f3.params[j]? = some t → args[j]? = some v → Value.okWide Try.prog W .any base t v := hval0
  have hW' := hW
  obtain ⟨p, q, hA0, hV, rfl, hfz, hnd⟩ := hW
  have hA : DataW.TrodAll enc Try.prog W 0 (fun _ => true) true Try.f3.params.toList args.toList ds p := hA0
  rw [Try.params3] at hA hval
  obtain ⟨v0, vs0, d0, ds0, p0, q0, hargs, rfl, rfl, h0, r0⟩ := trodAll_cons hA
  obtain ⟨v1, vs1, d1, ds1, p1, q1, rfl, rfl, rfl, h1, r1⟩ := trodAll_cons r0
  obtain ⟨v2, vs2, d2, ds2, p2, q2, rfl, rfl, rfl, h2, r2⟩ := trodAll_cons r1
  obtain ⟨rfl, rfl, rfl⟩ := trodAll_nil r2
  obtain rfl : args = #[v0, v1, v2] := by cases args; simp_all
  obtain ⟨rfl, rfl⟩ := trodVars_none hV
  obtain ⟨a0, len0, cap0, rfl⟩ := okWide_slice Try.underlying22 (hval 0 22 v0 rfl rfl)
  obtain ⟨a1, len1, cap1, rfl⟩ := okWide_slice Try.underlying22 (hval 1 22 v1 rfl rfl)
  obtain ⟨a2, len2, cap2, rfl⟩ := okWide_slice Try.underlying22 (hval 2 22 v2 rfl rfl)
  have k0 := h0
  have k1 := h1
  have k2 := h2
  have lt0 : ∀ x ∈ p0, x.block < W.heap.size := by obtain ⟨m, hm⟩ := k0; exact DataW.trod_lt m _ _ _ hm
  have lt1 : ∀ x ∈ p1, x.block < W.heap.size := by obtain ⟨m, hm⟩ := k1; exact DataW.trod_lt m _ _ _ hm
  have lt2 : ∀ x ∈ p2, x.block < W.heap.size := by obtain ⟨m, hm⟩ := k2; exact DataW.trod_lt m _ _ _ hm
  obtain ⟨z0, w0⟩ : ∃ ss, IsRowS W a0 len0 cap0 ss := by
    obtain ⟨fuel, hf⟩ := h0
    rcases open_strings Try.underlying22 Try.underlying9 (by kernel_rfl) hf with ⟨hcs, _⟩ | ⟨x, l, c, ss, hcs, _, hl, hm, hz, _, hcell, hwz⟩
    · simp [Value.cells] at hcs
      obtain ⟨rfl, rfl, rfl⟩ := hcs
      exact ⟨[], .inl ⟨rfl, rfl, rfl, rfl⟩⟩
    · simp [Value.cells] at hcs
      obtain ⟨rfl, rfl, rfl⟩ := hcs
      exact ⟨ss, .inr ⟨_, rfl, hl, hm, by simpa using hz, hcell, hwz⟩⟩
  obtain ⟨z1, w1⟩ : ∃ ss, IsRowS W a1 len1 cap1 ss := by
    obtain ⟨fuel, hf⟩ := h1
    rcases open_strings Try.underlying22 Try.underlying9 (by kernel_rfl) hf with ⟨hcs, _⟩ | ⟨x, l, c, ss, hcs, _, hl, hm, hz, _, hcell, hwz⟩
    · simp [Value.cells] at hcs
      obtain ⟨rfl, rfl, rfl⟩ := hcs
      exact ⟨[], .inl ⟨rfl, rfl, rfl, rfl⟩⟩
    · simp [Value.cells] at hcs
      obtain ⟨rfl, rfl, rfl⟩ := hcs
      exact ⟨ss, .inr ⟨_, rfl, hl, hm, by simpa using hz, hcell, hwz⟩⟩
  obtain ⟨z2, w2⟩ : ∃ ss, IsRowS W a2 len2 cap2 ss := by
    obtain ⟨fuel, hf⟩ := h2
    rcases open_strings Try.underlying22 Try.underlying9 (by kernel_rfl) hf with ⟨hcs, _⟩ | ⟨x, l, c, ss, hcs, _, hl, hm, hz, _, hcell, hwz⟩
    · simp [Value.cells] at hcs
      obtain ⟨rfl, rfl, rfl⟩ := hcs
      exact ⟨[], .inl ⟨rfl, rfl, rfl, rfl⟩⟩
    · simp [Value.cells] at hcs
      obtain ⟨rfl, rfl, rfl⟩ := hcs
      exact ⟨ss, .inr ⟨_, rfl, hl, hm, by simpa using hz, hcell, hwz⟩⟩
  clear hA0 hval0
  refine (walk a0 len0 cap0 z0 a1 len1 cap1 z1 a2 len2 cap2 z2 W w0 w1 w2).mono fun e W' ⟨he, bel⟩ => ?_
  subst he
  exact ⟨_, rfl, _, _, _, [], _, [], hW', trodAll_mk1 (shut_bool Try.underlying4 _), (trodAll_cons_mk (Below.trod laidOut (by kernel_rfl) (of_decide_eq_true (by kernel_rfl)) k0 bel lt0) (trodAll_cons_mk (Below.trod laidOut (by kernel_rfl) (of_decide_eq_true (by kernel_rfl)) k1 bel lt1) (trodAll_cons_mk (Below.trod laidOut (by kernel_rfl) (of_decide_eq_true (by kernel_rfl)) k2 bel lt2) trodAll_mk0))), rfl, bel.frame _, fun h => by cases h⟩

theorem over : Rows.fnAppendLineDumpReadsBackRow.holds Try.pinned (OpenSpec.ofChange Rows.fnAppendLineDumpReadsBackSpec) :=
  OpenClaim.holds_of_wide 3 Try.f3 rfl rfl rfl rfl rfl rfl rfl ⟨rfl, rfl, rfl, rfl, rfl⟩ rfl rfl rfl rfl rfl (by kernel_rfl) Try.func3 (by kernel_rfl)
    (of_decide_eq_true (by kernel_rfl)) (by unfold Func.isWrapper; first | (rw [if_pos (by decide +kernel)]; kernel_rfl) | (rw [if_neg (by decide +kernel)]; exact ⟨rfl, rfl⟩))
    (fun os started H enc _ => lifted os started H enc)

/-- ████ THE STATEMENT ████ -/
theorem proved : Rows.FnAppendLineDumpReadsBackSaid := over
#print axioms proved
end Go.Proofs.Qxb6621651a.fnAppendLineDumpReadsBack

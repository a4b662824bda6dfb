/-
  THE PROOF OF 'Rows.FnStartsPlainIsNsPlainFirstWhateverComesBeforeSaid'. The frame (lifted, over, proved) is the given shell's; the walks are filled in here, out of the contracts of Qxb6619931aStarts and below.
-/
import Derived.Test.Qxb6619931aStarts
import Derived.ChangeOld
import Derived.Below
namespace Go.Proofs.Qxb6619931a.fnStartsPlainIsNsPlainFirstWhateverComesBefore
open Go.ChangeShapes Go.WideShapes Go.ChangeAt Go.RowKit
open Go.ChangeMaps (open_string shut_string)
set_option linter.unusedVariables false

theorem own : ownKnob Try.prog.godebug = none := by kernel_rfl
theorem laidOut : laidOutB Try.prog = true := by kernel_rfl

set_option maxRecDepth 100000 in
set_option maxHeartbeats 800000 in
theorem walk_in (a0 : Option Addr) (n0 c0 : Nat) (b1 o1 : Nat) (n1 c1 : Nat) (k : Nat) (z0 z1 : Nat → Int) (w : World) (h0 : n0 ≤ 524288) (h1 : n1 ≤ 524288) (hk : k < n1)
    (l0 : Lies w a0 n0 z0) (hc : ∀ i, i < n1 → w.cell? ⟨b1, o1 + i, none⟩ = some (.int .u8 (z1 i))) (hz : ∀ i, 0 ≤ z1 i ∧ z1 i ≤ 255) :
    Calls Try.prog 4 #[.slice a0 n0 c0, .slice (some ⟨b1, o1, none⟩) n1 c1, .int .i64 k, .int .u8 (z1 k)] w fun e w' => e = .returned (.bool true) ∧ Below w.heap.size w w' := by
  have hmk := run_make_row' (P := Try.prog) 22 5 (.int .u8 0) 1 Try.underlying22 Try.info5 rfl .i64 .i64 n1 (by omega) (by omega)
  have q22 := fun w => run_neq_slice_nil_any (P := Try.prog) w 22 5 (some ⟨b1, o1, none⟩) n1 c1 0 0 Try.underlying22
  have l1 : Lies w (some ⟨b1, o1, none⟩) n1 z1 := .inr ⟨b1, o1, rfl, hc⟩
  have hck := hc k hk
  have hj : Hid (spl (jn n0 z0 z1) (n0 + n1) (n0 + k) (z1 k) = spl z1 n1 k (z1 k)) := spl_join n0 n1 k (z1 k) z0 z1
  obtain ⟨w2, hcp, hr, hB2⟩ := run_copy_text _ w.heap.size n1 c1 (some ⟨b1, o1, none⟩) z1 (zeros_at w n1) (l1.later ((Below.refl _ _).alloc (Nat.le_refl _) _)) w ((Below.refl _ _).alloc (Nat.le_refl _) _)
  have D11 := zstarts_row _ _ n1 n1 k (z1 k) z1 hk (by omega) hr
  clear hc
  obtain ⟨r, hR⟩ : ∃ r, spl z1 n1 k (z1 k) = r := ⟨_, rfl⟩
  have HR : Hid (spl z1 n1 k (z1 k) = r) := hR
  rw [hR] at D11
  clear hR
  go_enter Try.func4, Try.ntmps4
  go_wp2_with (first
    | (go_at_call 10; refine (zzs_yes _ _ _ _ _ _ _ _ _ (by omega)).mono ?_; rintro e w' ⟨rfl, rfl⟩)
    | (go_at_call_has 11 (Value.slice (some ⟨w.heap.size, 0, none⟩) n1 n1); refine D11.mono ?_; rintro e w3 ⟨rfl, hB3⟩; have hr3 := hr.of_block (hB3.block _ hr.lt); clear D11; have D12 := plain_row _ _ n1 n1 k (z1 k) z1 hk (by omega) hr3 hz; rw [HR.out] at D12)
    | (go_at_call 12; refine D12.mono ?_; rintro e w' ⟨rfl, rfl⟩; clear D12)
    | (go_at_call 9; refine (join_any _ _ _ _ _ _ z0 z1 _ h0 h1 ((l0.later hB2).later hB3) (Lies.row hr3 (Nat.le_refl _))).mono ?_; rintro e w4 ⟨rfl, hr4, hB4⟩; have D11 := zstarts_row _ _ (n0 + n1) (n0 + n1) (n0 + k) (z1 k) _ (by omega) (by omega) hr4; rw [hj.out, HR.out, Int.natCast_add] at D11)
    | (go_at_call_has 11 (Value.int IntKind.i64 ((n0 : Int) + (k : Int))); refine D11.mono ?_; rintro e w5 ⟨rfl, hB5⟩))
  go_ret
  have s2 := hB2.size
  have s3 := hB3.size
  have s4 := hB4.size
  exact ⟨by simp, ((hB2.trans (hB3.mono (by omega))).trans (hB4.mono (by omega))).trans (hB5.mono (by omega))⟩

set_option maxRecDepth 100000 in
theorem walk_differs (a0 : Option Addr) (n0 c0 : Nat) (b1 o1 : Nat) (n1 c1 : Nat) (k : Nat) (c : Int) (z1 : Nat → Int) (w : World) (h0 : n0 ≤ 524288) (h1 : n1 ≤ 524288) (hk : k < n1)
    (hc : w.cell? ⟨b1, o1 + k, none⟩ = some (.int .u8 (z1 k))) (hne : (z1 k != c) = true) :
    Calls Try.prog 4 #[.slice a0 n0 c0, .slice (some ⟨b1, o1, none⟩) n1 c1, .int .i64 k, .int .u8 c] w fun e w' => e = .returned (.bool true) ∧ Below w.heap.size w w' := by
  go_enter Try.func4, Try.ntmps4
  go_wp2_with (first | (go_at_call 10; refine (zzs_yes _ _ _ _ _ _ _ _ _ (by omega)).mono ?_; rintro e w' ⟨rfl, rfl⟩))
  go_ret
  exact ⟨rfl, Below.refl _ _⟩

set_option maxRecDepth 100000 in
theorem walk_out (a0 a1 : Option Addr) (n0 c0 n1 c1 : Nat) (i c : Int) (w : World) (m0 : n0 ≤ 9223372036854775807) (m1 : n1 ≤ 9223372036854775807) (h : 524288 < n0 ∨ 524288 < n1 ∨ i < 0 ∨ (n1 : Int) ≤ i) :
    Calls Try.prog 4 #[.slice a0 n0 c0, .slice a1 n1 c1, .int .i64 i, .int .u8 c] w fun e w' => e = .returned (.bool true) ∧ Below w.heap.size w w' := by
  by_cases hs : n0 + n1 ≤ 1048576
  · by_cases g0 : n0 ≤ 524288
    · by_cases g1 : n1 ≤ 524288
      · by_cases hi : i < 0
        · go_enter Try.func4, Try.ntmps4
          go_wp2_with (first | (go_at_call 10; refine (zzs_yes _ _ _ _ _ _ _ _ _ hs).mono ?_; rintro e w' ⟨rfl, rfl⟩))
          go_ret
          exact ⟨rfl, Below.refl _ _⟩
        · have hi2 : (n1 : Int) ≤ i := by omega
          go_enter Try.func4, Try.ntmps4
          go_wp2_with (first | (go_at_call 10; refine (zzs_yes _ _ _ _ _ _ _ _ _ hs).mono ?_; rintro e w' ⟨rfl, rfl⟩))
          go_ret
          exact ⟨rfl, Below.refl _ _⟩
      · go_enter Try.func4, Try.ntmps4
        go_wp2_with (first | (go_at_call 10; refine (zzs_yes _ _ _ _ _ _ _ _ _ hs).mono ?_; rintro e w' ⟨rfl, rfl⟩))
        go_ret
        exact ⟨rfl, Below.refl _ _⟩
    · go_enter Try.func4, Try.ntmps4
      go_wp2_with (first | (go_at_call 10; refine (zzs_yes _ _ _ _ _ _ _ _ _ hs).mono ?_; rintro e w' ⟨rfl, rfl⟩))
      go_ret
      exact ⟨rfl, Below.refl _ _⟩
  · go_enter Try.func4, Try.ntmps4
    go_wp2_with (first | (go_at_call 10; refine (zzs_no _ _ _ _ _ _ _ _ _ m0 m1 (by omega)).mono ?_; rintro e w' ⟨rfl, rfl⟩))
    go_ret
    exact ⟨rfl, Below.refl _ _⟩

theorem walk (a0 : Option Addr) (len0 cap0 : Nat) (z0 : List Int) (a1 : Option Addr) (len1 cap1 : Nat) (z1 : List Int) (a2 : Int) (a3 : Int) (w : World) (w0 : IsRow .u8 w a0 len0 cap0 z0) (w1 : IsRow .u8 w a1 len1 cap1 z1) (w2 : (Lit.int .i64 a2).wf = true) (w3 : (Lit.int .u8 a3).wf = true) :
    Calls Try.prog 4 #[.slice a0 len0 cap0, .slice a1 len1 cap1, .int .i64 a2, .int .u8 a3] w fun e w' => e = .returned (.bool true) ∧ Below w.heap.size w w' := by
  have l0 := w0.lies
  have l1 := w1.lies
  have m0 := w0.len
  have m1 := w1.len
  by_cases hout : 524288 < len0 ∨ 524288 < len1 ∨ a2 < 0 ∨ (len1 : Int) ≤ a2
  · exact walk_out _ _ _ _ _ _ _ _ _ m0 m1 hout
  · have g0 : len0 ≤ 524288 := by omega
    have g1 : len1 ≤ 524288 := by omega
    have g2 : 0 ≤ a2 := by omega
    obtain ⟨k, rfl⟩ := Int.eq_ofNat_of_zero_le g2
    have hk : k < len1 := by omega
    obtain ⟨b1, o1, rfl, hc⟩ := l1.resolve_left (by omega)
    by_cases hq : z1.getD k 0 = a3
    · subst hq
      exact walk_in _ _ _ _ _ _ _ _ (fun i => z0.getD i 0) (fun i => z1.getD i 0) _ g0 g1 hk l0 hc w1.bd
    · exact walk_differs _ _ _ _ _ _ _ _ _ (fun i => z1.getD i 0) _ g0 g1 hk (hc k hk) (bne_iff_ne.2 hq)

/-! ### THE ROW's STEP: WRITTEN OUT: LEAVE IT -/
set_option maxRecDepth 100000 in
theorem lifted (os : Os) (started : os.Started) (H : Type) (enc : TypeId × Value → H) :
    ReturnsInHanded {} Try.checked os 4 .any (Rows.fnStartsPlainIsNsPlainFirstWhateverComesBeforeSpec.pre6 enc Try.prog Try.f4 Rows.fnStartsPlainIsNsPlainFirstWhateverComesBeforeRow.domain false) (Rows.fnStartsPlainIsNsPlainFirstWhateverComesBeforeSpec.post enc Try.prog Try.f4 false true false false) := by
  refine returnsInHanded_of_change (C := Try.checked) own started (by kernel_rfl) Try.func4
    (ChangeSpec.witness6 (enc := enc) (C := Try.checked) false ⟨#[], #[.slice none 0 0, .slice none 0 0, .int .i64 0, .int .u8 0], []⟩ 8 (by kernel_rfl) (by kernel_rfl) (by kernel_rfl) (by kernel_rfl)) ?_
  intro W base args ds gs before hval0 hW hcnd _
  have hval : ∀ (j : Nat) t v, Try.f4.params[j]? = some t → args[j]? = some v → Value.okWide Try.prog W .any base t v := hval0
  have hW' := hW
  obtain ⟨p, q, hA0, hV, rfl, hfz, hnd⟩ := hW
  have hA : DataW.TrodAll enc Try.prog W 0 (fun _ => true) true Try.f4.params.toList args.toList ds p := hA0
  rw [Try.params4] at hA hval
  obtain ⟨v0, vs0, d0, ds0, p0, q0, hargs, rfl, rfl, h0, r0⟩ := trodAll_cons hA
  obtain ⟨v1, vs1, d1, ds1, p1, q1, rfl, rfl, rfl, h1, r1⟩ := trodAll_cons r0
  obtain ⟨v2, vs2, d2, ds2, p2, q2, rfl, rfl, rfl, h2, r2⟩ := trodAll_cons r1
  obtain ⟨v3, vs3, d3, ds3, p3, q3, rfl, rfl, rfl, h3, r3⟩ := trodAll_cons r2
  obtain ⟨rfl, rfl, rfl⟩ := trodAll_nil r3
  obtain rfl : args = #[v0, v1, v2, v3] := by cases args; simp_all
  obtain ⟨rfl, rfl⟩ := trodVars_none hV
  obtain ⟨a0, len0, cap0, rfl⟩ := okWide_slice Try.underlying22 (hval 0 22 v0 rfl rfl)
  have k0 := h0
  have lt0 : ∀ x ∈ p0, x.block < W.heap.size := by obtain ⟨m, hm⟩ := k0; exact DataW.trod_lt m _ _ _ hm
  obtain ⟨z0, w0⟩ : ∃ zs, IsRow .u8 W a0 len0 cap0 zs := by
    obtain ⟨fuel, hf⟩ := h0
    rcases open_ints Try.underlying22 Try.underlying5 (by kernel_rfl) hf with ⟨hcs, _⟩ | ⟨x, l, c, zs, hcs, _, hl, hm, hz, _, hcell, hwz⟩
    · simp [Value.cells] at hcs
      obtain ⟨rfl, rfl, rfl⟩ := hcs
      exact ⟨[], .inl ⟨rfl, rfl, rfl, rfl⟩⟩
    · simp [Value.cells] at hcs
      obtain ⟨rfl, rfl, rfl⟩ := hcs
      exact ⟨zs, .inr ⟨_, rfl, hl, hm, by simpa using hz, hcell, hwz⟩⟩
  obtain ⟨a1, len1, cap1, rfl⟩ := okWide_slice Try.underlying22 (hval 1 22 v1 rfl rfl)
  have k1 := h1
  have lt1 : ∀ x ∈ p1, x.block < W.heap.size := by obtain ⟨m, hm⟩ := k1; exact DataW.trod_lt m _ _ _ hm
  obtain ⟨z1, w1⟩ : ∃ zs, IsRow .u8 W a1 len1 cap1 zs := by
    obtain ⟨fuel, hf⟩ := h1
    rcases open_ints Try.underlying22 Try.underlying5 (by kernel_rfl) hf with ⟨hcs, _⟩ | ⟨x, l, c, zs, hcs, _, hl, hm, hz, _, hcell, hwz⟩
    · simp [Value.cells] at hcs
      obtain ⟨rfl, rfl, rfl⟩ := hcs
      exact ⟨[], .inl ⟨rfl, rfl, rfl, rfl⟩⟩
    · simp [Value.cells] at hcs
      obtain ⟨rfl, rfl, rfl⟩ := hcs
      exact ⟨zs, .inr ⟨_, rfl, hl, hm, by simpa using hz, hcell, hwz⟩⟩
  obtain ⟨a2, rfl, rfl, rfl, w2⟩ := open_int Try.underlying3 (hval 2 3 v2 rfl rfl) h2
  obtain ⟨a3, rfl, rfl, rfl, w3⟩ := open_int Try.underlying5 (hval 3 5 v3 rfl rfl) h3
  clear hA0 hval0
  refine (walk a0 len0 cap0 z0 a1 len1 cap1 z1 a2 a3 W w0 w1 w2 w3).mono fun e W' ⟨he, bel⟩ => ?_
  subst he
  exact ⟨_, rfl, _, _, _, [], _, [], hW', trodAll_mk1 (shut_bool Try.underlying4 _), (trodAll_cons_mk (Below.trod laidOut (by kernel_rfl) (of_decide_eq_true (by kernel_rfl)) k0 bel lt0) (trodAll_cons_mk (Below.trod laidOut (by kernel_rfl) (of_decide_eq_true (by kernel_rfl)) k1 bel lt1) (trodAll_cons_mk (shut_int Try.underlying3 w2) (trodAll_cons_mk (shut_int Try.underlying5 w3) trodAll_mk0)))), rfl, bel.frame _, fun h => by cases h⟩

theorem over : Rows.fnStartsPlainIsNsPlainFirstWhateverComesBeforeRow.holds Try.pinned (OpenSpec.ofChange Rows.fnStartsPlainIsNsPlainFirstWhateverComesBeforeSpec) :=
  OpenClaim.holds_of_wide 4 Try.f4 rfl rfl rfl rfl rfl rfl rfl ⟨rfl, rfl, rfl, rfl, rfl⟩ rfl rfl rfl rfl rfl (by kernel_rfl) Try.func4 (by kernel_rfl)
    (of_decide_eq_true (by kernel_rfl)) (by unfold Func.isWrapper; first | (rw [if_pos (by decide +kernel)]; kernel_rfl) | (rw [if_neg (by decide +kernel)]; exact ⟨rfl, rfl⟩))
    (fun os started H enc _ => lifted os started H enc)

/-- ████ THE STATEMENT ████ -/
theorem proved : Rows.FnStartsPlainIsNsPlainFirstWhateverComesBeforeSaid := over
#print axioms proved
end Go.Proofs.Qxb6619931a.fnStartsPlainIsNsPlainFirstWhateverComesBefore

/-
  THE PROOF OF 'Rows.FnEditsTurnsAIntoBMinimallySaid'. The frame (lifted, over, proved) is the given shell's; the walk is filled in here, out of the contracts of Qxb6621635aFwd (zzForward), Qxb6621635aEdits (edits), Qxb6621635aLcs (zzLCS).
-/
import Derived.Test.Qxb6621635aFwd
import Derived.Test.Qxb6621635aEdits
import Derived.ShutString
import Derived.ChangeOld
import Derived.Below
namespace Go.Proofs.Qxb6621635a.fnEditsTurnsAIntoBMinimally
open Go.ChangeShapes Go.WideShapes Go.ChangeAt Go.RowKit
open Go.ChangeMaps (open_string shut_string)
set_option linter.unusedVariables false

theorem own : ownKnob Try.prog.godebug = none := by kernel_rfl
theorem laidOut : laidOutB Try.prog = true := by kernel_rfl

/-- WHAT THE WALK IS TOLD OF A SLICE OF INTEGERS THAT CAME IN: it is nil; or it leads to a row of 'cap' cells, the numbers 'zs' (the first 'len' are its elements, the rest its spare room), each fitting its kind. -/
def IsRow (k : IntKind) (w : World) (a : Option Addr) (len cap : Nat) (zs : List Int) : Prop :=
  (a = none ∧ len = 0 ∧ cap = 0 ∧ zs = []) ∨
  ∃ x, a = some x ∧ len ≤ cap ∧ cap ≤ maxLen ∧ zs.length = cap ∧ (∀ i, i < zs.length → w.cell? (x.add i) = some (.int k (zs.getD i 0))) ∧ ∀ n ∈ zs, (Lit.int k n).wf = true

theorem add_none (b off j : Nat) : (⟨b, off, none⟩ : Addr).add j = ⟨b, off + j, none⟩ := by
  by_cases h : j = 0
  · subst h; rfl
  · simp [Addr.add, h]
theorem IsRow.lies {w : World} {a : Option Addr} {len cap : Nat} {zs : List Int} (h : IsRow .i64 w a len cap zs) : Lies w a len (fun i => zs.getD i 0) := by
  rcases h with ⟨_, h, _⟩ | ⟨x, rfl, hl, _, hz, hc, _⟩
  · exact .inl h
  · by_cases h0 : len = 0
    · exact .inl h0
    · obtain ⟨b, off, spot⟩ := x
      have h1 := hc 0 (by omega)
      have hs : spot = none := by simpa [Addr.add] using World.cell?_spot h1
      subst hs
      exact .inr ⟨b, off, rfl, fun i hi => by rw [← add_none]; exact hc i (by omega)⟩
theorem IsRow.len {w : World} {a : Option Addr} {len cap : Nat} {zs : List Int} (h : IsRow .i64 w a len cap zs) : len ≤ 9223372036854775807 := by
  rcases h with ⟨_, h, _⟩ | ⟨x, _, hl, hm, _⟩
  · omega
  · unfold maxLen at hm; omega

theorem ret_bool {a b : Bool} (h : a = b) : Ending.returned (.bool a) = .returned (.bool b) := by rw [h]
theorem drop_at {mv : List Int} {t : Nat} (h : t < mv.length) : mv.drop t = mv.getD t 0 :: mv.drop (t + 1) := by
  rw [List.drop_eq_getElem_cons h]; simp [h]

set_option maxRecDepth 100000 in
set_option maxHeartbeats 1000000 in
theorem walk_in (a0 b0 : Option Addr) (n c0 m c1 : Nat) (a b : Nat → Int) (w : World) (hn : n ≤ 512) (hm : m ≤ 512) (la : Lies w a0 n a) (lb : Lies w b0 m b) :
    Calls Try.prog 3 #[.slice a0 n c0, .slice b0 m c1] w fun e w' => e = .returned (.bool true) ∧ Below w.heap.size w w' := by
  go_enter Try.func3, Try.ntmps3
  go_wp2_with (first
    | (go_at_call 4; refine (zz_yes _ _ _ _ _ _ _ (by omega)).mono ?_; rintro e w' ⟨rfl, rfl⟩)
    | (go_at_call 5; refine (fwd_any _ _ _ _ _ _ a b _ hn hm la lb).mono ?_; rintro e w1 ⟨D, g, T, rfl, hT, hR, hbd, ⟨t0, ht0, hk0, hx0⟩, hB1⟩; have E := zedits_any w1 _ _ _ D t0 n m g T a b hn hm (by omega) (by omega) hT hR ht0 hk0 hx0; clear hT hR hk0 hx0)
    | (go_at_call 6; refine E.mono ?_; rintro e w2 ⟨mv, hp, v, rfl, hv, hB2⟩; have hB := thn hB1 hB2; clear E hB1 hB2))
  have hlen := okPath_len _ _ _ _ hp
  have hD := least hp hbd
  have hbl := lcs_bd a b n m
  have HD : Hid (((D : Int) == (n : Int) + m - 2 * (lcs a b n m : Int)) = true) := by
    have : ((D : Int) == (n : Int) + m - 2 * (lcs a b n m : Int)) = true := beq_iff_eq.2 (by omega)
    exact this
  have hDb : D ≤ n + m := by omega
  clear hbd hD
  rcases hv with ⟨rfl, rfl⟩ | ⟨g', cp, F, rfl, hle, hF, hFv⟩
  · obtain ⟨h1, h2, h3⟩ := hp
    subst h1 h2 h3
    have L := lcs_any a0 b0 0 c0 0 c1 a b w2 (by omega) (by omega) (la.later hB) (lb.later hB)
    rw [lcs_zero_l] at L
    clear HD hbl
    refine wp_loop_rounds 1 ?_
    rw [rounds_succ]
    go_wp2_with (first | (go_at_call 7; refine L.mono ?_; rintro e w3 ⟨rfl, hB3⟩))
    go_ret
    exact ⟨rfl, thn hB hB3⟩
  · go_loopw [10, 11, 12, 13] (fun iv jv cv tv wr => ∃ t i j c : Nat, t ≤ mv.length ∧ tv = .int .i64 t ∧ iv = .int .i64 i ∧ jv = .int .i64 j ∧ c ≤ D ∧ cv = .int .i64 ((D : Int) - c) ∧ okPath a b n m (mv.drop t) i j c ∧ wr.rowIs g' 29 cp F ∧ Below w.heap.size w wr)
      (fun _ _ _ tv _ => mv.length - (intOf tv).toNat)
    case atStart => exact ⟨0, 0, 0, D, by omega, rfl, rfl, rfl, by omega, by go_num, hp, hF, hB⟩
    case round =>
      clear hp hF hB
      obtain ⟨t, i, j, c, ht, rfl, rfl, rfl, hc, rfl, hp, hF, hB⟩ := hrel
      have hpl := okPath_lcs _ _ _ _ hp
      by_cases hlt : t < mv.length
      · have e := hF.cell (i := t) (by omega)
        rw [hFv t hlt] at e
        rw [drop_at hlt] at hp
        rcases hp with ⟨hv, g1, g2, g3, hp⟩ | ⟨hv, g1, c', rfl, hp⟩ | ⟨hv, g1, c', rfl, hp⟩
        · rw [hv] at e
          obtain ⟨ba, oa, rfl, hca⟩ := la.resolve_left (by omega)
          obtain ⟨bb, ob, rfl, hcb⟩ := lb.resolve_left (by omega)
          have k1 := cell_later hB (hca i g1)
          have k2 := cell_later hB (hcb j g2)
          have he' : (a i == b j) = true := beq_iff_eq.2 g3
          have i1 : (i : Int) < n := by omega
          have i2 : (j : Int) < m := by omega
          have i3 : (0 : Int) ≤ i := by omega
          have i4 : (0 : Int) ≤ j := by omega
          have he2 : (a i != b j) = false := by simp [g3]
          have i5 : ¬ n ≤ i := by omega
          have i6 : ¬ m ≤ j := by omega
          clear hv g3
          go_wp2
          go_quiet (fail)
          go_wp2
          go_roundw
          case rel => exact ⟨t + 1, i + 1, j + 1, c, by omega, by go_num, by go_num, by go_num, hc, rfl, hp, hF, below_drewN hB _⟩
          case measure => simp [intOf]; omega
        · rw [hv] at e
          clear hv
          have i1 : (i : Int) < n := by omega
          go_wp2
          go_roundw
          case rel => exact ⟨t + 1, i + 1, j, c', by omega, by go_num, by go_num, rfl, by omega, by go_num, hp, hF, hB⟩
          case measure => simp [intOf]; omega
        · rw [hv] at e
          clear hv
          have i1 : (j : Int) < m := by omega
          go_wp2
          go_roundw
          case rel => exact ⟨t + 1, i, j + 1, c', by omega, by go_num, rfl, by go_num, by omega, by go_num, hp, hF, hB⟩
          case measure => simp [intOf]; omega
      · rw [List.drop_eq_nil_of_le (by omega)] at hp
        obtain ⟨h1, h2, h3⟩ := hp
        subst h1 h2 h3
        have L := lcs_any a0 b0 i c0 j c1 a b wr (by omega) (by omega) (la.later hB) (lb.later hB)
        go_wp2_with (first | (go_at_call 7; refine L.mono ?_; rintro e w3 ⟨rfl, hB3⟩))
        go_ret
        exact ⟨ret_bool HD.out, thn hB hB3⟩
theorem walk_out (a0 b0 : Option Addr) (n c0 m c1 : Nat) (w : World) (hn : n ≤ 9223372036854775807) (hm : m ≤ 9223372036854775807) (h : 512 < n ∨ 512 < m) :
    Calls Try.prog 3 #[.slice a0 n c0, .slice b0 m c1] w fun e w' => e = .returned (.bool true) ∧ Below w.heap.size w w' := by
  by_cases hs : n + m ≤ 1048576
  · by_cases h1 : 512 < n
    · go_enter Try.func3, Try.ntmps3
      go_wp2_with (first | (go_at_call 4; refine (zz_yes _ _ _ _ _ _ _ hs).mono ?_; rintro e w' ⟨rfl, rfl⟩))
      go_ret
      exact ⟨rfl, Below.refl _ _⟩
    · have h2 : 512 < m := by omega
      go_enter Try.func3, Try.ntmps3
      go_wp2_with (first | (go_at_call 4; refine (zz_yes _ _ _ _ _ _ _ hs).mono ?_; rintro e w' ⟨rfl, rfl⟩))
      go_ret
      exact ⟨rfl, Below.refl _ _⟩
  · go_enter Try.func3, Try.ntmps3
    go_wp2_with (first | (go_at_call 4; refine (zz_no _ _ _ _ _ _ _ hn hm (by omega)).mono ?_; rintro e w' ⟨rfl, rfl⟩))
    go_ret
    exact ⟨rfl, Below.refl _ _⟩

theorem walk (a0 : Option Addr) (len0 cap0 : Nat) (z0 : List Int) (a1 : Option Addr) (len1 cap1 : Nat) (z1 : List Int) (w : World) (w0 : IsRow .i64 w a0 len0 cap0 z0) (w1 : IsRow .i64 w a1 len1 cap1 z1) :
    Calls Try.prog 3 #[.slice a0 len0 cap0, .slice a1 len1 cap1] w fun e w' => e = .returned (.bool true) ∧ Below w.heap.size w w' := by
  by_cases h : 512 < len0 ∨ 512 < len1
  · exact walk_out _ _ _ _ _ _ _ w0.len w1.len h
  · exact walk_in _ _ _ _ _ _ _ _ _ (by omega) (by omega) w0.lies w1.lies

/-! ### THE ROW's STEP: WRITTEN OUT: LEAVE IT -/
set_option maxRecDepth 100000 in
theorem lifted (os : Os) (started : os.Started) (H : Type) (enc : TypeId × Value → H) :
    ReturnsInHanded {} Try.checked os 3 .any (Rows.fnEditsTurnsAIntoBMinimallySpec.pre6 enc Try.prog Try.f3 Rows.fnEditsTurnsAIntoBMinimallyRow.domain false) (Rows.fnEditsTurnsAIntoBMinimallySpec.post enc Try.prog Try.f3 false true false false) := by
  refine returnsInHanded_of_change (C := Try.checked) own started (by kernel_rfl) Try.func3
    (ChangeSpec.witness6 (enc := enc) (C := Try.checked) false ⟨#[], #[.slice none 0 0, .slice none 0 0], []⟩ 8 (by kernel_rfl) (by kernel_rfl) (by kernel_rfl) (by kernel_rfl)) ?_
  intro W base args ds gs before hval0 hW hcnd _
  have hval : ∀ (j : Nat) t v, Try.f3.params[j]? = some t → args[j]? = some v → Value.okWide Try.prog W .any base t v := hval0
  have hW' := hW
  obtain ⟨p, q, hA0, hV, rfl, hfz, hnd⟩ := hW
  have hA : DataW.TrodAll enc Try.prog W 0 (fun _ => true) true Try.f3.params.toList args.toList ds p := hA0
  rw [Try.params3] at hA hval
  obtain ⟨v0, vs0, d0, ds0, p0, q0, hargs, rfl, rfl, h0, r0⟩ := trodAll_cons hA
  obtain ⟨v1, vs1, d1, ds1, p1, q1, rfl, rfl, rfl, h1, r1⟩ := trodAll_cons r0
  obtain ⟨rfl, rfl, rfl⟩ := trodAll_nil r1
  obtain rfl : args = #[v0, v1] := by cases args; simp_all
  obtain ⟨rfl, rfl⟩ := trodVars_none hV
  obtain ⟨a0, len0, cap0, rfl⟩ := okWide_slice Try.underlying22 (hval 0 22 v0 rfl rfl)
  have k0 := h0
  have lt0 : ∀ x ∈ p0, x.block < W.heap.size := by obtain ⟨m, hm⟩ := k0; exact DataW.trod_lt m _ _ _ hm
  obtain ⟨z0, w0⟩ : ∃ zs, IsRow .i64 W a0 len0 cap0 zs := by
    obtain ⟨fuel, hf⟩ := h0
    rcases open_ints Try.underlying22 Try.underlying3 (by kernel_rfl) hf with ⟨hcs, _⟩ | ⟨x, l, c, zs, hcs, _, hl, hm, hz, _, hcell, hwz⟩
    · simp [Value.cells] at hcs
      obtain ⟨rfl, rfl, rfl⟩ := hcs
      exact ⟨[], .inl ⟨rfl, rfl, rfl, rfl⟩⟩
    · simp [Value.cells] at hcs
      obtain ⟨rfl, rfl, rfl⟩ := hcs
      exact ⟨zs, .inr ⟨_, rfl, hl, hm, by simpa using hz, hcell, hwz⟩⟩
  obtain ⟨a1, len1, cap1, rfl⟩ := okWide_slice Try.underlying22 (hval 1 22 v1 rfl rfl)
  have k1 := h1
  have lt1 : ∀ x ∈ p1, x.block < W.heap.size := by obtain ⟨m, hm⟩ := k1; exact DataW.trod_lt m _ _ _ hm
  obtain ⟨z1, w1⟩ : ∃ zs, IsRow .i64 W a1 len1 cap1 zs := by
    obtain ⟨fuel, hf⟩ := h1
    rcases open_ints Try.underlying22 Try.underlying3 (by kernel_rfl) hf with ⟨hcs, _⟩ | ⟨x, l, c, zs, hcs, _, hl, hm, hz, _, hcell, hwz⟩
    · simp [Value.cells] at hcs
      obtain ⟨rfl, rfl, rfl⟩ := hcs
      exact ⟨[], .inl ⟨rfl, rfl, rfl, rfl⟩⟩
    · simp [Value.cells] at hcs
      obtain ⟨rfl, rfl, rfl⟩ := hcs
      exact ⟨zs, .inr ⟨_, rfl, hl, hm, by simpa using hz, hcell, hwz⟩⟩
  clear hA0 hval0
  refine (walk a0 len0 cap0 z0 a1 len1 cap1 z1 W w0 w1).mono fun e W' ⟨he, bel⟩ => ?_
  subst he
  exact ⟨_, rfl, _, _, _, [], _, [], hW', trodAll_mk1 (shut_bool Try.underlying4 _), (trodAll_cons_mk (Below.trod laidOut (by kernel_rfl) (of_decide_eq_true (by kernel_rfl)) k0 bel lt0) (trodAll_cons_mk (Below.trod laidOut (by kernel_rfl) (of_decide_eq_true (by kernel_rfl)) k1 bel lt1) trodAll_mk0)), rfl, bel.frame _, fun h => by cases h⟩

theorem over : Rows.fnEditsTurnsAIntoBMinimallyRow.holds Try.pinned (OpenSpec.ofChange Rows.fnEditsTurnsAIntoBMinimallySpec) :=
  OpenClaim.holds_of_wide 3 Try.f3 rfl rfl rfl rfl rfl rfl rfl ⟨rfl, rfl, rfl, rfl, rfl⟩ rfl rfl rfl rfl rfl (by kernel_rfl) Try.func3 (by kernel_rfl)
    (of_decide_eq_true (by kernel_rfl)) (by unfold Func.isWrapper; first | (rw [if_pos (by decide +kernel)]; kernel_rfl) | (rw [if_neg (by decide +kernel)]; exact ⟨rfl, rfl⟩))
    (fun os started H enc _ => lifted os started H enc)

/-- ████ THE STATEMENT ████ -/
theorem proved : Rows.FnEditsTurnsAIntoBMinimallySaid := over
#print axioms proved
end Go.Proofs.Qxb6621635a.fnEditsTurnsAIntoBMinimally

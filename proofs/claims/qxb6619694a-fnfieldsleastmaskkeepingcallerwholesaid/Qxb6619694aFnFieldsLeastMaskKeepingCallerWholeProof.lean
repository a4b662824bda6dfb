/-
  THE PROOF OF 'Rows.FnFieldsLeastMaskKeepingCallerWholeSaid'. The frame (lifted, over, proved) is the given shell's; the walk and the plain law are filled in here; the callees' contracts lie in Qxb6619694aParts.
-/
import Derived.Test.Qxb6619694aParts
import Derived.Deep.RegionHeld3
import Derived.Deep.DrawnRows
namespace Go.Proofs.Qxb6619694a.fnFieldsLeastMaskKeepingCallerWhole
open Go.ChangeShapes Go.WideShapes Go.ChangeAt Go.RowKit
open Go.ChangeMaps (open_string shut_string)
set_option linter.unusedVariables false
attribute [local go_sem ↓] Go.wp_at_zero Go.wp_at_succ

theorem own : ownKnob Try.prog.godebug = none := by kernel_rfl

theorem fm_bits (a b c : ByteArray) : (bits BinOp.andNot IntKind.u8 (fm a b c) 7 != 0) = false := by
  unfold fm
  cases (a.toList == []) <;> cases (b.toList == []) <;> cases (c.toList == []) <;> decide

theorem law_dec : ∀ (k : Fin 256) (e0 e1 e2 : Bool),
    ((!(bits BinOp.and IntKind.u8 ((k.val : Nat) : Int) 1 == 0) || e0) && (!(bits BinOp.and IntKind.u8 ((k.val : Nat) : Int) 2 == 0) || e1) && (!(bits BinOp.and IntKind.u8 ((k.val : Nat) : Int) 4 == 0) || e2))
      = (bits BinOp.and IntKind.u8 ((k.val : Nat) : Int) ((if e0 then 0 else 1) + (if e1 then 0 else 2) + (if e2 then 0 else 4)) == ((if e0 then 0 else 1) + (if e1 then 0 else 2) + (if e2 then 0 else 4))) := by
  decide +kernel

theorem ks_eq (t : Bool) (a : ByteArray) : ((ks t a).toList == a.toList) = (!t || a.toList == []) := by
  cases t
  · simp [ks]
  · have : ((ks true a).toList == a.toList) = (([] : List UInt8) == a.toList) := by simp [ks]
    rw [this]
    cases a.toList <;> rfl

theorem law (a0 a1 a2 : ByteArray) (k : Nat) (hk : k < 256) (q0 q1 q2 : Bool) (h0 : ((ks (zf k 1) a0).toList == a0.toList) = q0)
    (h1 : ((ks (zf k 2) a1).toList == a1.toList) = q1) (h2 : ((ks (zf k 4) a2).toList == a2.toList) = q2) :
    (bits BinOp.and IntKind.u8 (k : Int) (fm a0 a1 a2) == fm a0 a1 a2) = (q0 && q1 && q2) := by
  rw [← h0, ← h1, ← h2, ks_eq, ks_eq, ks_eq]
  exact (law_dec ⟨k, hk⟩ (a0.toList == []) (a1.toList == []) (a2.toList == [])).symm

set_option maxRecDepth 100000 in
set_option maxHeartbeats 400000 in
theorem walk (a0 : ByteArray) (a1 : ByteArray) (a2 : ByteArray) (w0 : a0.size ≤ maxLen) (w1 : a1.size ≤ maxLen) (w2 : a2.size ≤ maxLen) (w : World) :
    Calls Try.prog 3 #[.string a0, .string a1, .string a2] w fun e w' => e = .returned (.bool true) ∧ Grown w w' := by
  by_cases hs : a0.size + a1.size + a2.size ≤ 1048576
  · have hfm := fm_bits a0 a1 a2
    go_enter Try.func3, Try.ntmps3
    go_wp2_with (first | (go_at_call 4; refine (zz_yes _ _ _ _ hs).mono ?_; rintro e w' ⟨rfl, rfl⟩) | (go_at_call 5; refine (zzfields_any _ _ _ _).mono ?_; rintro e w' ⟨rfl, hg⟩))
    go_loopw [9] (fun i wr => ∃ k : Nat, k ≤ 256 ∧ i = .int .i64 k ∧ Nw (w.alloc (Obj.cells #[Value.string a0, Value.string a1, Value.string a2] 24)) wr) (fun i _ => 256 - (intOf i).toNat)
    case atStart => exact ⟨0, by omega, rfl, by assumption⟩
    case round =>
      obtain ⟨k, hk, rfl, hn⟩ := hrel
      obtain ⟨c0, c1, c2⟩ := hn.cells
      by_cases hlt : k < 256
      · cases q0 : ((ks (zf k 1) a0).toList == a0.toList) <;> cases q1 : ((ks (zf k 2) a1).toList == a1.toList) <;> cases q2 : ((ks (zf k 4) a2).toList == a2.toList)
        all_goals
          have hl := law a0 a1 a2 k hlt _ _ _ q0 q1 q2
          simp only [Bool.and_true, Bool.and_false] at hl
          go_wp2
          go_region_held3 (fun w' => w'.cell? ⟨w.heap.size, 0, none⟩ = some (.string a0) ∧ w'.cell? ⟨w.heap.size, 1, none⟩ = some (.string a1) ∧ w'.cell? ⟨w.heap.size, 2, none⟩ = some (.string a2)) (go_keep) 
          (first | (go_at_call 6; refine (zzonly_any _ _ _ _ _).mono ?_; rintro e w' ⟨rfl, hg2⟩; have hn2 := hn.drew.trans hg2; obtain ⟨d0, d1, d2⟩ := hn2.cells))
        all_goals
          go_wp2
          go_roundw
          case rel => exact ⟨k + 1, by omega, by go_num, hn2⟩
          case measure => simp [intOf]; omega
      · go_wp2
        go_ret
        exact ⟨rfl, (((Nw.refl w).alloc _ _).trans hn).grown⟩
  · go_enter Try.func3, Try.ntmps3
    go_wp2_with (first | (go_at_call 4; refine (zz_no _ _ _ _ w0 w1 w2 (by omega)).mono ?_; rintro e w' ⟨rfl, rfl⟩))
    go_ret
    exact ⟨rfl, Grown.refl _⟩
/-! ### THE ROW's STEP: WRITTEN OUT: LEAVE IT -/
set_option maxRecDepth 100000 in
theorem lifted (os : Os) (started : os.Started) (H : Type) (enc : TypeId × Value → H) :
    ReturnsInHanded {} Try.checked os 3 .any (Rows.fnFieldsLeastMaskKeepingCallerWholeSpec.pre6 enc Try.prog Try.f3 Rows.fnFieldsLeastMaskKeepingCallerWholeRow.domain false) (Rows.fnFieldsLeastMaskKeepingCallerWholeSpec.post enc Try.prog Try.f3 false true false false) := by
  refine returnsInHanded_of_change (C := Try.checked) own started (by kernel_rfl) Try.func3
    (ChangeSpec.witness6 (enc := enc) (C := Try.checked) false ⟨#[], #[.string ByteArray.empty, .string ByteArray.empty, .string ByteArray.empty], []⟩ 8 (by kernel_rfl) (by kernel_rfl) (by kernel_rfl) (by kernel_rfl)) ?_
  intro W base args ds gs before hval0 hW hcnd _
  have hval : ∀ (j : Nat) t v, Try.f3.params[j]? = some t → args[j]? = some v → Value.okWide Try.prog W .any base t v := hval0
  have hW' := hW
  obtain ⟨p, q, hA0, hV, rfl, hfz, hnd⟩ := hW
  have hA : DataW.TrodAll enc Try.prog W 0 (fun _ => true) true Try.f3.params.toList args.toList ds p := hA0
  rw [Try.params3] at hA hval
  obtain ⟨v0, vs0, d0, ds0, p0, q0, hargs, rfl, rfl, h0, r0⟩ := trodAll_cons hA
  obtain ⟨v1, vs1, d1, ds1, p1, q1, rfl, rfl, rfl, h1, r1⟩ := trodAll_cons r0
  obtain ⟨v2, vs2, d2, ds2, p2, q2, rfl, rfl, rfl, h2, r2⟩ := trodAll_cons r1
  obtain ⟨rfl, rfl, rfl⟩ := trodAll_nil r2
  obtain rfl : args = #[v0, v1, v2] := by cases args; simp_all
  obtain ⟨rfl, rfl⟩ := trodVars_none hV
  obtain ⟨a0, rfl, rfl, rfl, w0⟩ := open_string Try.underlying9 (hval 0 9 v0 rfl rfl) h0
  obtain ⟨a1, rfl, rfl, rfl, w1⟩ := open_string Try.underlying9 (hval 1 9 v1 rfl rfl) h1
  obtain ⟨a2, rfl, rfl, rfl, w2⟩ := open_string Try.underlying9 (hval 2 9 v2 rfl rfl) h2
  clear hA0 hval0
  simp only [List.append_nil] at hW'
  refine (walk a0 a1 a2 w0 w1 w2 W).mono fun e W' ⟨he, hg⟩ => ?_
  subst he
  exact ⟨_, rfl, post_of_same (pa := []) (pv := []) hW' (fun _ _ _ => (trodAll_cons_mk (shut_bool Try.underlying4 _) trodAll_mk0)) (fun sp _ => (trodAll_cons_mk (shut_string Try.underlying9 w0) (trodAll_cons_mk (shut_string Try.underlying9 w1) (trodAll_cons_mk (shut_string Try.underlying9 w2) trodAll_mk0)))) (fun _ _ => rfl) rfl
    (hg.frame _) hg.2.1 (ok_one (by kernel_rfl) rfl (okWide_bool_mk Try.underlying4 _))⟩

theorem over : Rows.fnFieldsLeastMaskKeepingCallerWholeRow.holds Try.pinned (OpenSpec.ofChange Rows.fnFieldsLeastMaskKeepingCallerWholeSpec) :=
  OpenClaim.holds_of_wide 3 Try.f3 rfl rfl rfl rfl rfl rfl rfl ⟨rfl, rfl, rfl, rfl, rfl⟩ rfl rfl rfl rfl rfl (by kernel_rfl) Try.func3 (by kernel_rfl)
    (of_decide_eq_true (by kernel_rfl)) (by unfold Func.isWrapper; first | (rw [if_pos (by decide +kernel)]; kernel_rfl) | (rw [if_neg (by decide +kernel)]; exact ⟨rfl, rfl⟩))
    (fun os started H enc _ => lifted os started H enc)

/-- ████ THE STATEMENT ████ -/
theorem proved : Rows.FnFieldsLeastMaskKeepingCallerWholeSaid :=
  over
#print axioms proved
end Go.Proofs.Qxb6619694a.fnFieldsLeastMaskKeepingCallerWhole

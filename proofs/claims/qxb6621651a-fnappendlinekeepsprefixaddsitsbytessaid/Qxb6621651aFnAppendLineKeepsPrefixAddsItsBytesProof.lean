/-
  THE PROOF OF 'Rows.FnAppendLineKeepsPrefixAddsItsBytesSaid'. The frame (lifted, over, proved) is the given shell's; the walk is filled in here, out of the contracts of Qxb6621651aLine (AppendLine), Qxb6621651aClone (b1Clone) and the laws of Qxb6621651aCount.
-/
import Derived.Test.Qxb6621651aCount
import Derived.ChangeOld
import Derived.Below
namespace Go.Proofs.Qxb6621651a.fnAppendLineKeepsPrefixAddsItsBytes
open Go.ChangeShapes Go.WideShapes Go.ChangeAt Go.RowKit
open Go.ChangeMaps (open_string shut_string)
set_option linter.unusedVariables false

theorem own : ownKnob Try.prog.godebug = none := by kernel_rfl
theorem laidOut : laidOutB Try.prog = true := by kernel_rfl

/-- WHAT THE WALK IS TOLD OF A SLICE OF INTEGERS THAT CAME IN: it is nil; or it leads to a row of 'cap' cells, the numbers 'zs' (the first 'len' are its elements, the rest its spare room), each fitting its kind. -/
def IsRow (k : IntKind) (w : World) (a : Option Addr) (len cap : Nat) (zs : List Int) : Prop :=
  (a = none ∧ len = 0 ∧ cap = 0 ∧ zs = []) ∨
  ∃ x, a = some x ∧ len ≤ cap ∧ cap ≤ maxLen ∧ zs.length = cap ∧ (∀ i, i < zs.length → w.cell? (x.add i) = some (.int k (zs.getD i 0))) ∧ ∀ n ∈ zs, (Lit.int k n).wf = true

theorem add_none (b off j : Nat) : (⟨b, off, none⟩ : Addr).add j = ⟨b, off + j, none⟩ := by
  by_cases h : j = 0
  · subst h; rfl
  · simp [Addr.add, h]
theorem IsRow.lies {w : World} {a : Option Addr} {len cap : Nat} {zs : List Int} (h : IsRow .u8 w a len cap zs) : Lies w a len (fun i => zs.getD i 0) := by
  rcases h with ⟨_, h, _⟩ | ⟨x, rfl, hl, _, hz, hc, _⟩
  · exact .inl h
  · by_cases h0 : len = 0
    · exact .inl h0
    · obtain ⟨b, off, spot⟩ := x
      have h1 := hc 0 (by omega)
      have hs : spot = none := by simpa [Addr.add] using World.cell?_spot h1
      subst hs
      exact .inr ⟨b, off, rfl, fun i hi => by rw [← add_none]; exact hc i (by omega)⟩
theorem IsRow.len {w : World} {a : Option Addr} {len cap : Nat} {zs : List Int} (h : IsRow .u8 w a len cap zs) : len ≤ 9223372036854775807 := by
  rcases h with ⟨_, h, _⟩ | ⟨x, _, hl, hm, _⟩
  · omega
  · unfold maxLen at hm; omega
theorem IsRow.nil {w : World} {len cap : Nat} {zs : List Int} {a : Option Addr} (h : IsRow .u8 w a len cap zs) (ha : a = none) : len = 0 ∧ cap = 0 := by
  rcases h with ⟨_, h1, h2, _⟩ | ⟨x, hx, _⟩
  · exact ⟨h1, h2⟩
  · rw [ha] at hx; cases hx

set_option maxRecDepth 100000 in
set_option maxHeartbeats 1000000 in
theorem walk_in (a0 : Option Addr) (n c : Nat) (z : Nat → Int) (u p a : ByteArray) (w : World) (h0 : n ≤ 262144) (h1 : u.size ≤ 262144) (h2 : p.size ≤ 262144) (h3 : a.size ≤ 262144) (hs : n + u.size + p.size + a.size ≤ 1048576)
    (l : Lies w a0 n z) (ha0 : a0 = none → n = 0 ∧ c = 0) :
    Calls Try.prog 4 #[.slice a0 n c, .string u, .string p, .string a] w fun e w' => e = .returned (.bool true) ∧ Below w.heap.size w w' := by
  have C1 := clone_any a0 n c z w (by omega) l ha0
  go_enter Try.func4, Try.ntmps4
  go_wp2_with (first
    | (go_at_call 9; refine (zz_yes _ _ _ _ _ _ _ hs).mono ?_; rintro e w' ⟨rfl, rfl⟩)
    | (go_at_call_has 10 (Value.slice a0 n c); refine C1.mono ?_; rintro e w1 ⟨ab, cb, rfl, hown, lb, hbn, hB1⟩; clear C1; have C2 := clone_any ab n cb z w1 (by omega) lb hbn)
    | (go_at_call 10; refine C2.mono ?_; rintro e w2 ⟨ak, ck, rfl, hownk, lk, hkn, hB2⟩; clear C2; have hown2 := own_later hB2 hown)
    | (go_at_call_has 8 (Value.slice ab n cb); refine (line_any w.heap.size _ _ (bl n z) u p a (hown2.alloc _) (by rw [bl_length]; omega) (by have := hB1.size; have := hB2.size; simp; omega)).mono ?_; rintro e w4 ⟨vo, rfl, So⟩; have cu : w4.cell? ⟨w2.heap.size, 0, none⟩ = some (.string u) := So.cell (by simp) (by intro e; have := hown2.lt _ e.symm; omega); have cp : w4.cell? ⟨w2.heap.size, 1, none⟩ = some (.string p) := So.cell (by simp) (by intro e; have := hown2.lt _ e.symm; omega); have ca : w4.cell? ⟨w2.heap.size, 2, none⟩ = some (.string a) := So.cell (by simp) (by intro e; have := hown2.lt _ e.symm; omega))
    | (go_at_call_has 8 (Value.slice none 0 0); refine (line_any w4.heap.size _ _ [] u p a (World.ownsRow_nil _ _ _ _) (by simp; omega) (Nat.le_refl _)).mono ?_; rintro e w5 ⟨vt, rfl, St⟩; obtain ⟨go, co, gt, ct, rfl, rfl, cO1, cO2, cT, lK, hB5⟩ := after hB1 hB2 hown hownk lk So St; clear So St hown hown2 hownk lk lb hbn hkn cu cp ca))
  clear hB1 hB2
  go_loopw [13] (fun i wr => ∃ k : Nat, k ≤ n ∧ i = .int .i64 k ∧ Below w5.heap.size w5 wr) (fun i _ => n - (intOf i).toNat)
  case atStart => exact ⟨0, by omega, rfl, Below.refl _ _⟩
  case round =>
    obtain ⟨k, hk, rfl, hb⟩ := hrel
    by_cases hlt : k < n
    · obtain ⟨bk, ok, rfl, cK⟩ := lK.resolve_left (by omega)
      have e1 := cell_later hb (cO1 k hlt)
      have e2 := cell_later hb (cK k hlt)
      go_wp2
      go_region
      all_goals go_wp2
      all_goals go_roundw
      case rel => exact ⟨k + 1, by omega, by go_num, hb.drew⟩
      case measure => simp [intOf]; omega
    · obtain rfl : k = n := by omega
      go_wp2
      go_loopw [14] (fun i wr => ∃ t : Nat, t ≤ u.size + p.size + a.size + 3 ∧ i = .int .i64 t ∧ Below w5.heap.size w5 wr) (fun i _ => u.size + p.size + a.size + 3 - (intOf i).toNat)
      case atStart => exact ⟨0, by omega, rfl, hb⟩
      case round =>
        clear hb
        obtain ⟨t, ht, rfl, hb⟩ := hrel
        by_cases hlt2 : t < u.size + p.size + a.size + 3
        · have e1 := cell_later hb (cO2 t hlt2)
          have e2 := cell_later hb (cT t hlt2)
          go_wp2
          go_region
          all_goals go_wp2
          all_goals go_roundw
          case rel => exact ⟨t + 1, by omega, by go_num, hb.drew⟩
          case measure => simp [intOf]; omega
        · obtain rfl : t = u.size + p.size + a.size + 3 := by omega
          have e1 := cell_later hb (cT (u.size + p.size + a.size + 2) (by omega))
          rw [line_last] at e1
          obtain ⟨Z, hZ, hZs, hZc⟩ := zero31
          have rW : ((wr.alloc (.cells Z 31)).alloc (.cells Z 31)).rowIs wr.heap.size 31 256 (fun t => .int .i64 (cn ((sq u p a).take 0) t)) := by
            have := (World.rowIs_alloc wr Z 31 (fun t => .int .i64 (cn ((sq u p a).take 0) t)) (fun i hi => by rw [hZc i (by omega)]; simp [cn])).alloc (.cells Z 31)
            rwa [hZs] at this
          have rG : ((wr.alloc (.cells Z 31)).alloc (.cells Z 31)).rowIs (wr.heap.size + 1) 31 256 (fun t => .int .i64 (cn ((line u p a).take 0) t)) := by
            have := World.rowIs_alloc (wr.alloc (.cells Z 31)) Z 31 (fun t => .int .i64 (cn ((line u p a).take 0) t)) (fun i hi => by rw [hZc i (by omega)]; simp [cn])
            rw [hZs] at this
            simpa using this
          have hb1 : Below w5.heap.size w5 ((wr.alloc (.cells Z 31)).alloc (.cells Z 31)) := (hb.alloc hb.size _).alloc (by have := hb.size; simp; omega) _
          obtain ⟨gW, hgW⟩ : ∃ gW, wr.heap.size = gW := ⟨_, rfl⟩
          have hlow : w5.heap.size ≤ gW := by rw [← hgW]; exact hb.size
          rw [hgW] at rW rG
          go_wp2
          go_loopw [17] (fun i ws => ∃ k : Nat, k ≤ u.size ∧ i = .int .i64 k ∧ ws.rowIs gW 31 256 (fun t => .int .i64 (cn ((sq u p a).take (k)) t)) ∧ ws.rowIs (gW + 1) 31 256 (fun t => .int .i64 (cn ((line u p a).take 0) t)) ∧ Below w5.heap.size w5 ws) (fun i _ => u.size - (intOf i).toNat)
          case atStart => exact ⟨0, by omega, rfl, rW, rG, hb1⟩
          case round =>
            clear rW rG hb1 hb e1
            obtain ⟨k1, hk1, rfl, rW, rG, hb⟩ := hrel
            by_cases hltk1 : k1 < u.size
            · obtain ⟨x, hx⟩ : ∃ x : Nat, u[k1].toNat = x := ⟨_, rfl⟩
              have hx2 : x < 256 := by rw [← hx]; exact UInt8.toNat_lt _
              have e1 := rW.cell hx2
              have f1 := rW.frozen x
              have bd := cn_bd ((sq u p a).take (k1)) x
              have bd2 := sq_len u p a (k1) (by omega)
              have rW2 := cn_step _ _ _ x rW
              rw [← hx, ← sq_take_u u p a k1 hltk1, hx] at rW2
              go_wp2
              go_roundw
              case rel => exact ⟨k1 + 1, by omega, by go_num, rW2, rG.setOther (by simp) _, hb.setCell hlow _⟩
              case measure => simp [intOf]; omega
            · obtain rfl : k1 = u.size := by omega
              go_wp2
              go_loopw [18] (fun i ws => ∃ k : Nat, k ≤ p.size ∧ i = .int .i64 k ∧ ws.rowIs gW 31 256 (fun t => .int .i64 (cn ((sq u p a).take (u.size + k)) t)) ∧ ws.rowIs (gW + 1) 31 256 (fun t => .int .i64 (cn ((line u p a).take 0) t)) ∧ Below w5.heap.size w5 ws) (fun i _ => p.size - (intOf i).toNat)
              case atStart => exact ⟨0, by omega, rfl, rW, rG, hb⟩
              case round =>
                clear rW rG hb
                obtain ⟨k2, hk2, rfl, rW, rG, hb⟩ := hrel
                by_cases hltk2 : k2 < p.size
                · obtain ⟨x, hx⟩ : ∃ x : Nat, p[k2].toNat = x := ⟨_, rfl⟩
                  have hx2 : x < 256 := by rw [← hx]; exact UInt8.toNat_lt _
                  have e1 := rW.cell hx2
                  have f1 := rW.frozen x
                  have bd := cn_bd ((sq u p a).take (u.size + k2)) x
                  have bd2 := sq_len u p a (u.size + k2) (by omega)
                  have rW2 := cn_step _ _ _ x rW
                  rw [← hx, ← sq_take_p u p a k2 hltk2, hx] at rW2
                  go_wp2
                  go_roundw
                  case rel => exact ⟨k2 + 1, by omega, by go_num, rW2, rG.setOther (by simp) _, hb.setCell hlow _⟩
                  case measure => simp [intOf]; omega
                · obtain rfl : k2 = p.size := by omega
                  go_wp2
                  go_loopw [19] (fun i ws => ∃ k : Nat, k ≤ a.size ∧ i = .int .i64 k ∧ ws.rowIs gW 31 256 (fun t => .int .i64 (cn ((sq u p a).take (u.size + p.size + k)) t)) ∧ ws.rowIs (gW + 1) 31 256 (fun t => .int .i64 (cn ((line u p a).take 0) t)) ∧ Below w5.heap.size w5 ws) (fun i _ => a.size - (intOf i).toNat)
                  case atStart => exact ⟨0, by omega, rfl, rW, rG, hb⟩
                  case round =>
                    clear rW rG hb
                    obtain ⟨k3, hk3, rfl, rW, rG, hb⟩ := hrel
                    by_cases hltk3 : k3 < a.size
                    · obtain ⟨x, hx⟩ : ∃ x : Nat, a[k3].toNat = x := ⟨_, rfl⟩
                      have hx2 : x < 256 := by rw [← hx]; exact UInt8.toNat_lt _
                      have e1 := rW.cell hx2
                      have f1 := rW.frozen x
                      have bd := cn_bd ((sq u p a).take (u.size + p.size + k3)) x
                      have bd2 := sq_len u p a (u.size + p.size + k3) (by omega)
                      have rW2 := cn_step _ _ _ x rW
                      rw [← hx, ← sq_take_a u p a k3 hltk3, hx] at rW2
                      go_wp2
                      go_roundw
                      case rel => exact ⟨k3 + 1, by omega, by go_num, rW2, rG.setOther (by simp) _, hb.setCell hlow _⟩
                      case measure => simp [intOf]; omega
                    · obtain rfl : k3 = a.size := by omega
                      rw [List.take_of_length_le (by rw [sq_length]; omega)] at rW
                      have e44 := rW.cell (i := 44) (by omega)
                      have f44 := rW.frozen 44
                      have b44 := cn_bd (sq u p a) 44
                      have b10 := cn_bd (sq u p a) 10
                      have b44' : (sq u p a).length ≤ 1048576 := by rw [sq_length]; omega
                      have r44 := cn_two _ _ _ 44 rW
                      have e10 := rW.cell (i := 10) (by omega)
                      have f10 := rW.frozen 10
                      have r10 := cn_step _ _ _ 10 r44
                      rw [show cn (sq u p a ++ [((44 : Nat) : Int)] ++ [((44 : Nat) : Int)]) 10 = cn (sq u p a) 10 by rw [cn_snoc, cn_snoc, if_neg (by omega), if_neg (by omega)]] at r10
                      have rF := r10.congr (g := fun t => .int .i64 (cn (line u p a) t)) (fun t _ => by rw [cn_line])
                      clear r10 r44
                      have rG2 := (rG.setOther (a := ⟨gW, 44, none⟩) (by simp) (.int .i64 (cn (sq u p a) 44 + 2))).setOther (a := ⟨gW, 10, none⟩) (by simp) (.int .i64 (cn (sq u p a) 10 + 1))
                      have hb2 := (hb.setCell (p := ⟨gW, 44, none⟩) hlow (.int .i64 (cn (sq u p a) 44 + 2))).setCell (p := ⟨gW, 10, none⟩) hlow (.int .i64 (cn (sq u p a) 10 + 1))
                      clear rG hb
                      go_wp2
                      go_loopw [20] (fun i ws => ∃ t : Nat, t ≤ u.size + p.size + a.size + 3 ∧ i = .int .i64 t ∧ ws.rowIs gW 31 256 (fun t => .int .i64 (cn (line u p a) t)) ∧ ws.rowIs (gW + 1) 31 256 (fun q => .int .i64 (cn ((line u p a).take t) q)) ∧ Below w5.heap.size w5 ws) (fun i _ => u.size + p.size + a.size + 3 - (intOf i).toNat)
                      case atStart => exact ⟨0, by omega, rfl, rF, rG2, hb2⟩
                      case round =>
                        clear rF rG2 hb2 rW
                        obtain ⟨t, ht, rfl, rW, rG, hb⟩ := hrel
                        by_cases hltt : t < u.size + p.size + a.size + 3
                        · have c1 := cell_later hb (cT t hltt)
                          obtain ⟨x, hx, hx2, htake⟩ := line_byte u p a t hltt
                          rw [hx] at c1
                          have e1 := rG.cell hx2
                          have f1 := rG.frozen x
                          have bd := cn_bd ((line u p a).take t) x
                          have bd2 : ((line u p a).take t).length ≤ 1048576 := by rw [List.length_take, line_length]; omega
                          have rG2 := cn_step _ _ _ x rG
                          rw [← htake] at rG2
                          clear hx htake
                          go_wp2
                          go_roundw
                          case rel => exact ⟨t + 1, by omega, by go_num, rW.setOther (by simp) _, rG2, hb.setCell (by show _ ≤ gW + 1; omega) _⟩
                          case measure => simp [intOf]; omega
                        · obtain rfl : t = u.size + p.size + a.size + 3 := by omega
                          rw [List.take_of_length_le (by rw [line_length]; omega)] at rG
                          go_wp2
                          go_loopw [21] (fun i ws => ∃ k : Nat, k ≤ 256 ∧ i = .int .i64 k ∧ ws.rowIs gW 31 256 (fun t => .int .i64 (cn (line u p a) t)) ∧ ws.rowIs (gW + 1) 31 256 (fun t => .int .i64 (cn (line u p a) t)) ∧ Below w5.heap.size w5 ws) (fun i _ => 256 - (intOf i).toNat)
                          case atStart => exact ⟨0, by omega, rfl, rW, rG, hb⟩
                          case round =>
                            clear rW rG hb
                            obtain ⟨k5, hk5, rfl, rW, rG, hb⟩ := hrel
                            by_cases hlt5 : k5 < 256
                            · have e1 := rW.cell hlt5
                              have e2 := rG.cell hlt5
                              go_wp2
                              go_region
                              all_goals go_wp2
                              all_goals go_roundw
                              case rel => exact ⟨k5 + 1, by omega, by go_num, rW.drew, rG.drew, hb.drew⟩
                              case measure => simp [intOf]; omega
                            · go_wp2
                              go_ret
                              exact ⟨rfl, thn hB5 hb⟩

set_option maxRecDepth 100000 in
theorem walk_out (a0 : Option Addr) (n c : Nat) (u p a : ByteArray) (w : World) (m0 : n ≤ 9223372036854775807) (m1 : u.size ≤ 9223372036854775807) (m2 : p.size ≤ 9223372036854775807) (m3 : a.size ≤ 9223372036854775807)
    (h : 262144 < n ∨ 262144 < u.size ∨ 262144 < p.size ∨ 262144 < a.size) :
    Calls Try.prog 4 #[.slice a0 n c, .string u, .string p, .string a] w fun e w' => e = .returned (.bool true) ∧ Below w.heap.size w w' := by
  by_cases hs : n + u.size + p.size + a.size ≤ 1048576
  · by_cases h1 : 262144 < n
    · go_enter Try.func4, Try.ntmps4
      go_wp2_with (first | (go_at_call 9; refine (zz_yes _ _ _ _ _ _ _ hs).mono ?_; rintro e w' ⟨rfl, rfl⟩))
      go_ret
      exact ⟨rfl, Below.refl _ _⟩
    · by_cases h2 : 262144 < u.size
      · go_enter Try.func4, Try.ntmps4
        go_wp2_with (first | (go_at_call 9; refine (zz_yes _ _ _ _ _ _ _ hs).mono ?_; rintro e w' ⟨rfl, rfl⟩))
        go_ret
        exact ⟨rfl, Below.refl _ _⟩
      · by_cases h3 : 262144 < p.size
        · go_enter Try.func4, Try.ntmps4
          go_wp2_with (first | (go_at_call 9; refine (zz_yes _ _ _ _ _ _ _ hs).mono ?_; rintro e w' ⟨rfl, rfl⟩))
          go_ret
          exact ⟨rfl, Below.refl _ _⟩
        · have h4 : 262144 < a.size := by omega
          go_enter Try.func4, Try.ntmps4
          go_wp2_with (first | (go_at_call 9; refine (zz_yes _ _ _ _ _ _ _ hs).mono ?_; rintro e w' ⟨rfl, rfl⟩))
          go_ret
          exact ⟨rfl, Below.refl _ _⟩
  · go_enter Try.func4, Try.ntmps4
    go_wp2_with (first | (go_at_call 9; refine (zz_no _ _ _ _ _ _ _ m0 m1 m2 m3 (by omega)).mono ?_; rintro e w' ⟨rfl, rfl⟩))
    go_ret
    exact ⟨rfl, Below.refl _ _⟩

theorem walk (a0 : Option Addr) (len0 cap0 : Nat) (z0 : List Int) (a1 : ByteArray) (a2 : ByteArray) (a3 : ByteArray) (w : World) (w0 : IsRow .u8 w a0 len0 cap0 z0) (w1 : a1.size ≤ maxLen) (w2 : a2.size ≤ maxLen) (w3 : a3.size ≤ maxLen) :
    Calls Try.prog 4 #[.slice a0 len0 cap0, .string a1, .string a2, .string a3] w fun e w' => e = .returned (.bool true) ∧ Below w.heap.size w w' := by
  have m1 := w1
  have m2 := w2
  have m3 := w3
  unfold maxLen at m1 m2 m3
  by_cases h : 262144 < len0 ∨ 262144 < a1.size ∨ 262144 < a2.size ∨ 262144 < a3.size
  · exact walk_out _ _ _ _ _ _ _ w0.len (by omega) (by omega) (by omega) h
  · exact walk_in _ _ _ _ _ _ _ _ (by omega) (by omega) (by omega) (by omega) (by omega) w0.lies w0.nil

/-! ### THE ROW's STEP: WRITTEN OUT: LEAVE IT -/
set_option maxRecDepth 100000 in
theorem lifted (os : Os) (started : os.Started) (H : Type) (enc : TypeId × Value → H) :
    ReturnsInHanded {} Try.checked os 4 .any (Rows.fnAppendLineKeepsPrefixAddsItsBytesSpec.pre6 enc Try.prog Try.f4 Rows.fnAppendLineKeepsPrefixAddsItsBytesRow.domain false) (Rows.fnAppendLineKeepsPrefixAddsItsBytesSpec.post enc Try.prog Try.f4 false true false false) := by
  refine returnsInHanded_of_change (C := Try.checked) own started (by kernel_rfl) Try.func4
    (ChangeSpec.witness6 (enc := enc) (C := Try.checked) false ⟨#[], #[.slice none 0 0, .string ByteArray.empty, .string ByteArray.empty, .string ByteArray.empty], []⟩ 8 (by kernel_rfl) (by kernel_rfl) (by kernel_rfl) (by kernel_rfl)) ?_
  intro W base args ds gs before hval0 hW hcnd _
  have hval : ∀ (j : Nat) t v, Try.f4.params[j]? = some t → args[j]? = some v → Value.okWide Try.prog W .any base t v := hval0
  have hW' := hW
  obtain ⟨p, q, hA0, hV, rfl, hfz, hnd⟩ := hW
  have hA : DataW.TrodAll enc Try.prog W 0 (fun _ => true) true Try.f4.params.toList args.toList ds p := hA0
  rw [Try.params4] at hA hval
  obtain ⟨v0, vs0, d0, ds0, p0, q0, hargs, rfl, rfl, h0, r0⟩ := trodAll_cons hA
  obtain ⟨v1, vs1, d1, ds1, p1, q1, rfl, rfl, rfl, h1, r1⟩ := trodAll_cons r0
  obtain ⟨v2, vs2, d2, ds2, p2, q2, rfl, rfl, rfl, h2, r2⟩ := trodAll_cons r1
  obtain ⟨v3, vs3, d3, ds3, p3, q3, rfl, rfl, rfl, h3, r3⟩ := trodAll_cons r2
  obtain ⟨rfl, rfl, rfl⟩ := trodAll_nil r3
  obtain rfl : args = #[v0, v1, v2, v3] := by cases args; simp_all
  obtain ⟨rfl, rfl⟩ := trodVars_none hV
  obtain ⟨a0, len0, cap0, rfl⟩ := okWide_slice Try.underlying25 (hval 0 25 v0 rfl rfl)
  have k0 := h0
  have lt0 : ∀ x ∈ p0, x.block < W.heap.size := by obtain ⟨m, hm⟩ := k0; exact DataW.trod_lt m _ _ _ hm
  obtain ⟨z0, w0⟩ : ∃ zs, IsRow .u8 W a0 len0 cap0 zs := by
    obtain ⟨fuel, hf⟩ := h0
    rcases open_ints Try.underlying25 Try.underlying5 (by kernel_rfl) hf with ⟨hcs, _⟩ | ⟨x, l, c, zs, hcs, _, hl, hm, hz, _, hcell, hwz⟩
    · simp [Value.cells] at hcs
      obtain ⟨rfl, rfl, rfl⟩ := hcs
      exact ⟨[], .inl ⟨rfl, rfl, rfl, rfl⟩⟩
    · simp [Value.cells] at hcs
      obtain ⟨rfl, rfl, rfl⟩ := hcs
      exact ⟨zs, .inr ⟨_, rfl, hl, hm, by simpa using hz, hcell, hwz⟩⟩
  obtain ⟨a1, rfl, rfl, rfl, w1⟩ := open_string Try.underlying9 (hval 1 9 v1 rfl rfl) h1
  obtain ⟨a2, rfl, rfl, rfl, w2⟩ := open_string Try.underlying9 (hval 2 9 v2 rfl rfl) h2
  obtain ⟨a3, rfl, rfl, rfl, w3⟩ := open_string Try.underlying9 (hval 3 9 v3 rfl rfl) h3
  clear hA0 hval0
  refine (walk a0 len0 cap0 z0 a1 a2 a3 W w0 w1 w2 w3).mono fun e W' ⟨he, bel⟩ => ?_
  subst he
  exact ⟨_, rfl, _, _, _, [], _, [], hW', trodAll_mk1 (shut_bool Try.underlying4 _), (trodAll_cons_mk (Below.trod laidOut (by kernel_rfl) (of_decide_eq_true (by kernel_rfl)) k0 bel lt0) (trodAll_cons_mk (shut_string Try.underlying9 w1) (trodAll_cons_mk (shut_string Try.underlying9 w2) (trodAll_cons_mk (shut_string Try.underlying9 w3) trodAll_mk0)))), rfl, bel.frame _, fun h => by cases h⟩

theorem over : Rows.fnAppendLineKeepsPrefixAddsItsBytesRow.holds Try.pinned (OpenSpec.ofChange Rows.fnAppendLineKeepsPrefixAddsItsBytesSpec) :=
  OpenClaim.holds_of_wide 4 Try.f4 rfl rfl rfl rfl rfl rfl rfl ⟨rfl, rfl, rfl, rfl, rfl⟩ rfl rfl rfl rfl rfl (by kernel_rfl) Try.func4 (by kernel_rfl)
    (of_decide_eq_true (by kernel_rfl)) (by unfold Func.isWrapper; first | (rw [if_pos (by decide +kernel)]; kernel_rfl) | (rw [if_neg (by decide +kernel)]; exact ⟨rfl, rfl⟩))
    (fun os started H enc _ => lifted os started H enc)

/-- ████ THE STATEMENT ████ -/
theorem proved : Rows.FnAppendLineKeepsPrefixAddsItsBytesSaid := over
#print axioms proved
end Go.Proofs.Qxb6621651a.fnAppendLineKeepsPrefixAddsItsBytes

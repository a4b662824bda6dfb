/- The contracts of b1HasSep, b1ListsFit and zzBytes over lists of strings. -/
import Derived.Test.Qxb6621651aParse
namespace Go.Proofs.Qxb6621651a
open Go.ChangeShapes Go.WideShapes Go.ChangeAt Go.RowKit

theorem ret_bool {a b : Bool} (h : a = b) : Ending.returned (.bool a) = .returned (.bool b) := by rw [h]
theorem btake (u : ByteArray) (k : Nat) (h : k < u.size) : (bts u).take (k + 1) = (bts u).take k ++ [((u[k].toNat : Nat) : Int)] := by
  rw [List.take_succ_eq_append_getElem (by rw [bts_length]; exact h)]
  congr 2
  simp [bts]
  rfl
def sepK (s : ByteArray) (k : Nat) : Bool := ((bts s).take k).any fun v => v == 44 || v == 10
theorem sepK_succ (s : ByteArray) (k x : Nat) (h : k < s.size) (hx : s[k].toNat = x) : sepK s (k + 1) = (sepK s k || ((x : Int) == 44 || (x : Int) == 10)) := by
  unfold sepK
  rw [btake s k h, hx, List.any_append]
  simp
theorem sepK_all (s : ByteArray) : sepK s s.size = sepB s := by
  unfold sepK sepB
  rw [List.take_of_length_le (by rw [bts_length]; omega)]
theorem sepK_true {s : ByteArray} {k : Nat} (h : sepK s k = true) : sepB s = true := by
  unfold sepK at h
  unfold sepB
  rw [List.any_eq_true] at h ⊢
  obtain ⟨v, hv, h⟩ := h
  exact ⟨v, List.mem_of_mem_take hv, h⟩

set_option maxRecDepth 100000 in
theorem hasSep_any (s : ByteArray) (w : World) (hs : s.size ≤ 1048576) : Calls Try.prog 7 #[.string s] w fun e w' => e = .returned (.bool (sepB s)) ∧ w = w' := by
  go_enter Try.func7, Try.ntmps7
  go_wp2
  go_loop [3] (fun i => ∃ k : Nat, k ≤ s.size ∧ i = .int .i64 k ∧ sepK s k = false) (fun i => s.size - (intOf i).toNat)
  case atStart => exact ⟨0, by omega, rfl, rfl⟩
  case round =>
    obtain ⟨k, hk, rfl, hno⟩ := hrel
    by_cases hlt : k < s.size
    · obtain ⟨x, hx⟩ : ∃ x : Nat, s[k].toNat = x := ⟨_, rfl⟩
      have hstep := sepK_succ s k x hlt hx
      rw [hno, Bool.false_or] at hstep
      by_cases h1 : x = 44
      · subst h1
        have ht : Hid (sepB s = true) := sepK_true (k := k + 1) (by rw [hstep]; rfl)
        clear hstep
        go_wp2
        go_ret
        exact ⟨ret_bool ht.out.symm, rfl⟩
      · by_cases h2 : x = 10
        · subst h2
          have ht : Hid (sepB s = true) := sepK_true (k := k + 1) (by rw [hstep]; rfl)
          clear hstep
          go_wp2
          go_ret
          exact ⟨ret_bool ht.out.symm, rfl⟩
        · have i1 : ((x : Int) == 44) = false := beq_eq_false_iff_ne.2 (by omega)
          have i2 : ((x : Int) == 10) = false := beq_eq_false_iff_ne.2 (by omega)
          rw [i1, i2] at hstep
          have hn2 : Hid (sepK s (k + 1) = false) := by rw [hstep]; rfl
          clear hstep hno
          go_wp2
          go_round
          case rel => exact ⟨k + 1, by omega, by go_num, hn2.out⟩
          case measure => simp [intOf]; omega
    · obtain rfl : k = s.size := by omega
      rw [sepK_all] at hno
      have ht : Hid (sepB s = false) := hno
      clear hno
      go_wp2
      go_ret
      exact ⟨ret_bool ht.out.symm, rfl⟩

/-- The strings f lie at the slice's address. -/
def LiesS (w : World) (a : Option Addr) (n : Nat) (f : Nat → ByteArray) : Prop :=
  n = 0 ∨ ∃ b off, a = some ⟨b, off, none⟩ ∧ ∀ i, i < n → w.cell? ⟨b, off + i, none⟩ = some (.string (f i))


/-- A bool comes back; if it is true, B holds. -/
def BoolSays (B : Prop) (e : Ending) : Prop := ∃ r, e = .returned (.bool r) ∧ (r = true → B)
theorem says_no (B : Prop) : BoolSays B (.returned (.bool false)) := ⟨false, rfl, fun h => by cases h⟩
theorem says_yes {B : Prop} (h : B) : BoolSays B (.returned (.bool true)) := ⟨true, rfl, fun _ => h⟩

set_option maxRecDepth 100000 in
theorem fit_any (a0 a1 a2 : Option Addr) (nu cu np cp na ca : Nat) (fu fp fa : Nat → ByteArray) (w : World) (bu : nu ≤ 65536) (bp : np ≤ 65536) (ba : na ≤ 65536)
    (lu : LiesS w a0 nu fu) (lp : LiesS w a1 np fp) (la : LiesS w a2 na fa) (mlu : ∀ i, i < nu → (fu i).size ≤ 9223372036854775807) (mlp : ∀ i, i < np → (fp i).size ≤ 9223372036854775807) (mla : ∀ i, i < na → (fa i).size ≤ 9223372036854775807) :
    Calls Try.prog 6 #[.slice a0 nu cu, .slice a1 np cp, .slice a2 na ca] w fun e w' => BoolSays (tot fu nu + tot fp np + tot fa na ≤ 1048576) e ∧ w = w' := by
  go_enter Try.func6, Try.ntmps6
  go_wp2
  go_loop [7, 8] (fun q i => ∃ k : Nat, k ≤ nu ∧ i = .int .i64 k ∧ q = .int .i64 ((tot fu k : Nat) : Int) ∧ tot fu k ≤ 1048576) (fun _ i => nu - (intOf i).toNat)
  case atStart => exact ⟨0, by omega, rfl, by simp [tot], by simp [tot]⟩
  case round =>
    obtain ⟨k1, hk1, rfl, rfl, hqk1⟩ := hrel
    by_cases hltk1 : k1 < nu
    · obtain ⟨bb, ob, rfl, hc⟩ := lu.resolve_left (by omega)
      have c1 := hc k1 hltk1
      have hm := mlu k1 hltk1
      have et : Hid (tot fu (k1 + 1) = tot fu k1 + (16 + (fu k1).size)) := by
        have : tot fu (k1 + 1) = tot fu k1 + (16 + (fu k1).size) := by simp only [tot]
        exact this
      clear hc
      by_cases hbig : 1048576 < (fu k1).size
      · go_wp2
        go_ret
        exact ⟨says_no _, rfl⟩
      · by_cases hsum : 1048576 < tot fu k1 + (16 + (fu k1).size)
        · go_wp2
          go_ret
          exact ⟨says_no _, rfl⟩
        · go_wp2
          go_round
          case rel => exact ⟨k1 + 1, by omega, by go_num, by rw [et.out]; go_num, by rw [et.out]; omega⟩
          case measure => simp [intOf]; omega
    · obtain rfl : k1 = nu := by omega
      go_wp2
      go_loop [7, 9] (fun q i => ∃ k : Nat, k ≤ np ∧ i = .int .i64 k ∧ q = .int .i64 ((tot fu k1 + tot fp k : Nat) : Int) ∧ tot fu k1 + tot fp k ≤ 1048576) (fun _ i => np - (intOf i).toNat)
      case atStart => exact ⟨0, by omega, rfl, by simp [tot], by simp [tot]; omega⟩
      case round =>
        obtain ⟨k2, hk2, rfl, rfl, hqk2⟩ := hrel
        by_cases hltk2 : k2 < np
        · obtain ⟨bb, ob, rfl, hc⟩ := lp.resolve_left (by omega)
          have c1 := hc k2 hltk2
          have hm := mlp k2 hltk2
          have et : Hid (tot fu k1 + tot fp (k2 + 1) = tot fu k1 + tot fp k2 + (16 + (fp k2).size)) := by
            have : tot fu k1 + tot fp (k2 + 1) = tot fu k1 + tot fp k2 + (16 + (fp k2).size) := by simp only [tot]; omega
            exact this
          clear hc
          by_cases hbig : 1048576 < (fp k2).size
          · go_wp2
            go_ret
            exact ⟨says_no _, rfl⟩
          · by_cases hsum : 1048576 < tot fu k1 + tot fp k2 + (16 + (fp k2).size)
            · go_wp2
              go_ret
              exact ⟨says_no _, rfl⟩
            · go_wp2
              go_round
              case rel => exact ⟨k2 + 1, by omega, by go_num, by rw [et.out]; go_num, by rw [et.out]; omega⟩
              case measure => simp [intOf]; omega
        · obtain rfl : k2 = np := by omega
          go_wp2
          go_loop [7, 10] (fun q i => ∃ k : Nat, k ≤ na ∧ i = .int .i64 k ∧ q = .int .i64 ((tot fu k1 + tot fp k2 + tot fa k : Nat) : Int) ∧ tot fu k1 + tot fp k2 + tot fa k ≤ 1048576) (fun _ i => na - (intOf i).toNat)
          case atStart => exact ⟨0, by omega, rfl, by simp [tot], by simp [tot]; omega⟩
          case round =>
            obtain ⟨k3, hk3, rfl, rfl, hqk3⟩ := hrel
            by_cases hltk3 : k3 < na
            · obtain ⟨bb, ob, rfl, hc⟩ := la.resolve_left (by omega)
              have c1 := hc k3 hltk3
              have hm := mla k3 hltk3
              have et : Hid (tot fu k1 + tot fp k2 + tot fa (k3 + 1) = tot fu k1 + tot fp k2 + tot fa k3 + (16 + (fa k3).size)) := by
                have : tot fu k1 + tot fp k2 + tot fa (k3 + 1) = tot fu k1 + tot fp k2 + tot fa k3 + (16 + (fa k3).size) := by simp only [tot]; omega
                exact this
              clear hc
              by_cases hbig : 1048576 < (fa k3).size
              · go_wp2
                go_ret
                exact ⟨says_no _, rfl⟩
              · by_cases hsum : 1048576 < tot fu k1 + tot fp k2 + tot fa k3 + (16 + (fa k3).size)
                · go_wp2
                  go_ret
                  exact ⟨says_no _, rfl⟩
                · go_wp2
                  go_round
                  case rel => exact ⟨k3 + 1, by omega, by go_num, by rw [et.out]; go_num, by rw [et.out]; omega⟩
                  case measure => simp [intOf]; omega
            · obtain rfl : k3 = na := by omega
              have HQ : Hid (tot fu k1 + tot fp k2 + tot fa k3 ≤ 1048576) := hqk3
              clear hqk3 hqk2 hqk1
              go_wp2
              go_ret
              exact ⟨says_yes HQ.out, rfl⟩


set_option maxRecDepth 100000 in
theorem zzd_any (a0 a1 a2 : Option Addr) (nu cu np cp na ca : Nat) (fu fp fa : Nat → ByteArray) (w : World) (bu : nu ≤ 9223372036854775807) (bp : np ≤ 9223372036854775807) (ba : na ≤ 9223372036854775807)
    (lu : LiesS w a0 nu fu) (lp : LiesS w a1 np fp) (la : LiesS w a2 na fa) (mlu : ∀ i, i < nu → (fu i).size ≤ 9223372036854775807) (mlp : ∀ i, i < np → (fp i).size ≤ 9223372036854775807) (mla : ∀ i, i < na → (fa i).size ≤ 9223372036854775807) :
    Calls Try.prog 5 #[.slice a0 nu cu, .slice a1 np cp, .slice a2 na ca] w fun e w' => BoolSays True e ∧ w = w' := by
  by_cases gk1 : 1048576 < nu
  · go_enter Try.func5, Try.ntmps5
    go_wp2
    go_ret
    exact ⟨says_no _, rfl⟩
  · by_cases gk1' : 1048576 < nu + 0
    · omega
    · go_enter Try.func5, Try.ntmps5
      go_wp2
      go_loop [7, 8] (fun qv i => ∃ k q : Nat, k ≤ nu ∧ i = .int .i64 k ∧ qv = .int .i64 q ∧ q ≤ 1048576) (fun _ i => nu - (intOf i).toNat)
      case atStart => exact ⟨0, nu, by omega, rfl, by go_num, by omega⟩
      case round =>
        obtain ⟨k1, q1, hk1, rfl, rfl, hqk1⟩ := hrel
        by_cases hltk1 : k1 < nu
        · obtain ⟨bb, ob, rfl, hc⟩ := lu.resolve_left (by omega)
          have c1 := hc k1 hltk1
          have hm := mlu k1 hltk1
          clear hc
          by_cases hbig : 1048576 < (fu k1).size
          · go_wp2
            go_ret
            exact ⟨says_no _, rfl⟩
          · by_cases hsum : 1048576 < q1 + (fu k1).size
            · go_wp2
              go_ret
              exact ⟨says_no _, rfl⟩
            · go_wp2
              go_round
              case rel => exact ⟨k1 + 1, q1 + (fu k1).size, by omega, by go_num, by go_num, by omega⟩
              case measure => simp [intOf]; omega
        · obtain rfl : k1 = nu := by omega
          by_cases gk2 : 1048576 < np
          · go_wp2
            go_ret
            exact ⟨says_no _, rfl⟩
          · by_cases gk2' : 1048576 < q1 + np
            · go_wp2
              go_ret
              exact ⟨says_no _, rfl⟩
            · go_wp2
              go_loop [7, 9] (fun qv i => ∃ k q : Nat, k ≤ np ∧ i = .int .i64 k ∧ qv = .int .i64 q ∧ q ≤ 1048576) (fun _ i => np - (intOf i).toNat)
              case atStart => exact ⟨0, q1 + np, by omega, rfl, by go_num, by omega⟩
              case round =>
                obtain ⟨k2, q2, hk2, rfl, rfl, hqk2⟩ := hrel
                by_cases hltk2 : k2 < np
                · obtain ⟨bb, ob, rfl, hc⟩ := lp.resolve_left (by omega)
                  have c1 := hc k2 hltk2
                  have hm := mlp k2 hltk2
                  clear hc
                  by_cases hbig : 1048576 < (fp k2).size
                  · go_wp2
                    go_ret
                    exact ⟨says_no _, rfl⟩
                  · by_cases hsum : 1048576 < q2 + (fp k2).size
                    · go_wp2
                      go_ret
                      exact ⟨says_no _, rfl⟩
                    · go_wp2
                      go_round
                      case rel => exact ⟨k2 + 1, q2 + (fp k2).size, by omega, by go_num, by go_num, by omega⟩
                      case measure => simp [intOf]; omega
                · obtain rfl : k2 = np := by omega
                  by_cases gk3 : 1048576 < na
                  · go_wp2
                    go_ret
                    exact ⟨says_no _, rfl⟩
                  · by_cases gk3' : 1048576 < q2 + na
                    · go_wp2
                      go_ret
                      exact ⟨says_no _, rfl⟩
                    · go_wp2
                      go_loop [7, 10] (fun qv i => ∃ k q : Nat, k ≤ na ∧ i = .int .i64 k ∧ qv = .int .i64 q ∧ q ≤ 1048576) (fun _ i => na - (intOf i).toNat)
                      case atStart => exact ⟨0, q2 + na, by omega, rfl, by go_num, by omega⟩
                      case round =>
                        obtain ⟨k3, q3, hk3, rfl, rfl, hqk3⟩ := hrel
                        by_cases hltk3 : k3 < na
                        · obtain ⟨bb, ob, rfl, hc⟩ := la.resolve_left (by omega)
                          have c1 := hc k3 hltk3
                          have hm := mla k3 hltk3
                          clear hc
                          by_cases hbig : 1048576 < (fa k3).size
                          · go_wp2
                            go_ret
                            exact ⟨says_no _, rfl⟩
                          · by_cases hsum : 1048576 < q3 + (fa k3).size
                            · go_wp2
                              go_ret
                              exact ⟨says_no _, rfl⟩
                            · go_wp2
                              go_round
                              case rel => exact ⟨k3 + 1, q3 + (fa k3).size, by omega, by go_num, by go_num, by omega⟩
                              case measure => simp [intOf]; omega
                        · obtain rfl : k3 = na := by omega
                          go_wp2
                          go_ret
                          exact ⟨says_yes trivial, rfl⟩

end Go.Proofs.Qxb6621651a

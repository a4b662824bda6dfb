/- The contracts of edits, ZZEdits and zzBytes. -/
import Derived.Test.Qxb6621635aRev
namespace Go.Proofs.Qxb6621635a
open Go.ChangeShapes Go.WideShapes Go.ChangeAt Go.RowKit

/-- The moves as cells. -/
abbrev mcells (ms : List Int) : List Value := ms.map (Value.int .u8)

theorem own_snoc {w : World} {B : Nat} {v : Value} {ms : List Int} {x : Int} (h : w.ownsRow B 29 1 v (ms.length + 1) (mcells ms ++ [.int .u8 x])) : w.ownsRow B 29 1 v (ms ++ [x]).length (mcells (ms ++ [x])) := by
  simpa using h

theorem path_keep {a b : Nat → Int} {n m : Nat} {ms : List Int} {x y c : Nat} (h : okPath a b n m ms.reverse (x + 1) (y + 1) c) (hx : x < n) (hy : y < m) (e : a x = b y) : okPath a b n m (ms ++ [0]).reverse x y c := by
  rw [List.reverse_append]; exact .inl ⟨rfl, hx, hy, e, h⟩
theorem path_drop {a b : Nat → Int} {n m : Nat} {ms : List Int} {x y c : Nat} (h : okPath a b n m ms.reverse (x + 1) y c) (hx : x < n) : okPath a b n m (ms ++ [1]).reverse x y (c + 1) := by
  rw [List.reverse_append]; exact .inr (.inl ⟨rfl, hx, c, rfl, h⟩)
theorem path_add {a b : Nat → Int} {n m : Nat} {ms : List Int} {x y c : Nat} (h : okPath a b n m ms.reverse x (y + 1) c) (hy : y < m) : okPath a b n m (ms ++ [2]).reverse x y (c + 1) := by
  rw [List.reverse_append]; exact .inr (.inr ⟨rfl, hy, c, rfl, h⟩)

/-- The moves' row, its content by the index. -/
theorem own_row {w : World} {B g n cap : Nat} {ms : List Int} (h : w.ownsRow B 29 1 (.slice (some ⟨g, 0, none⟩) n cap) n (mcells ms)) :
    n = ms.length ∧ n ≤ cap ∧ B ≤ g ∧ ∃ F, w.rowIs g 29 cap F ∧ ∀ t, t < n → F t = .int .u8 (ms.getD t 0) := by
  have hl := h.1
  rcases h.2 with ⟨h', _⟩ | ⟨g', cap', cur, h', hb, hg, hle, _, hsz, htake⟩
  · simp at h'
  · simp only [Value.slice.injEq, Option.some.injEq, Addr.mk.injEq, and_true, true_and] at h'
    obtain ⟨rfl, rfl⟩ := h'
    rw [Nat.mul_one] at hsz htake hl
    refine ⟨by simpa using hl.symm, hle, hb, fun i => cur[i]?.getD undef, ⟨cur, hg, hsz, fun i hi => ?_⟩, fun i hi => ?_⟩
    · have : i < cur.size := by omega
      simp [this]
    · have hc : i < cur.size := by omega
      have hm : i < ms.length := by simp at hl; omega
      have h2 : (cur.toList.take n)[i]? = (mcells ms)[i]? := by rw [htake]
      rw [List.getElem?_take_of_lt hi] at h2
      simp [hc, hm] at h2 ⊢
      exact h2
theorem rev_get {ms : List Int} {n t : Nat} (hn : n = ms.length) (ht : t < n) : ms.getD (n - 1 - t) 0 = ms.reverse.getD t 0 := by
  subst hn
  have h1 : ms.length - 1 - t < ms.length := by omega
  simp [ht, h1]

set_option maxRecDepth 100000 in
set_option maxHeartbeats 1000000 in
theorem edits_any (w : World) (B R cap D t0 n m : Nat) (g : Nat → Nat) (T : Nat → Nat → Int) (a b : Nat → Int) (hn : n ≤ 512) (hm : m ≤ 512) (hD : D ≤ n + m) (hcap : D + 1 ≤ cap)
    (hT : Tab w B R (D + 1) cap g T) (hR : ∀ d, d ≤ D → RowOk a b n m T d) (ht0 : t0 ≤ D) (hk0 : kk D t0 = (n : Int) - m) (hx0 : T D (2 * t0) = n) :
    Calls Try.prog 9 #[.slice (some ⟨R, 0, none⟩) (D + 1) cap, .int .i64 ((n : Int) - m), .int .i64 n, .int .i64 m] w fun e w' => ∃ mv : List Int, okPath a b n m mv 0 0 D ∧ ∃ v, e = .returned v ∧
      ((mv = [] ∧ v = .slice none 0 0) ∨ ∃ g' cp F, v = .slice (some ⟨g', 0, none⟩) mv.length cp ∧ mv.length ≤ cp ∧ w'.rowIs g' 29 cp F ∧ ∀ t, t < mv.length → F t = .int .u8 (mv.getD t 0)) ∧ Below w.heap.size w w' := by
  obtain ⟨i29, hi, hz0, hz1, hz2⟩ := info_parts Try.info29
  have hk0' : (n : Int) - m = 2 * (t0 : Int) - D := hk0.symm
  have HK : Hid ((n : Int) - m = 2 * (t0 : Int) - D) := hk0'
  clear hk0 hk0'
  go_enter Try.func9, Try.ntmps9
  go_wp2
  go_loopw [1, 9, 10, 11] (fun kv v xv dv wr => ∃ d t x y : Nat, ∃ ms : List Int, d ≤ D ∧ t ≤ d ∧ dv = .int .i64 d ∧ kv = .int .i64 (2 * (t : Int) - d) ∧ xv = .int .i64 x ∧ T d (2 * t) = x ∧ (x : Int) - y = 2 * (t : Int) - d ∧
      wr.ownsRow w.heap.size 29 1 v ms.length (mcells ms) ∧ okPath a b n m ms.reverse x y (D - d) ∧ Below w.heap.size w wr) (fun _ _ _ dv _ => (intOf dv).toNat)
  case atStart => exact ⟨D, t0, n, m, [], by omega, ht0, by go_num, by rw [HK.out], rfl, hx0, HK.out, World.ownsRow_nil _ _ _ _, ⟨rfl, rfl, by omega⟩, Below.refl _ _⟩
  case round =>
    rename World => w1
    clear hx0
    obtain ⟨d, t, x, y, ms, hd, ht, rfl, rfl, rfl, hx, hxy, hown, hp, hB⟩ := hrel
    have D10 := last_any w1 R (D + 1) cap d t n m a b T (by omega) ht (by omega) (by omega) (fun d' h => hR d' (by omega)) (fun e he => (hT.later hB).rowAt (by omega) (by omega))
    rw [show kk d t = 2 * (t : Int) - d from rfl] at D10
    rcases hR d hd t ht with hc | ⟨c1, c2, c3, c4, c5, c6⟩
    · omega
    · rw [hx] at c2 c3 c5 c6
      rw [show kk d t = 2 * (t : Int) - d from rfl] at c4 c5 c6
      obtain ⟨s, hs⟩ : ∃ s : Nat, st T n m d t = s := ⟨(st T n m d t).toNat, by omega⟩
      have HS : Hid (st T n m d t = s) := hs
      rw [hs] at D10 c2 c4 c6
      clear hs c1
      obtain ⟨fx, hfx⟩ : ∃ fx, fr T n m d t = fx := ⟨_, rfl⟩
      have HF : Hid (fr T n m d t = fx) := hfx
      rw [hfx] at D10
      clear hfx
      have HX : Hid (T d (2 * t) = x) := hx
      clear hx
      go_wp2_with (first | (go_at_call 10; refine D10.mono ?_; rintro e w2 ⟨rfl, hB2⟩; have hown2 := hown.kept ⟨hB2.os, hB2.tape, hB2.output, hB2.size, fun k hk _ => hB2.block k hk⟩ (row := none) (by cases hv : Value.ownBlock _ <;> simp); have hB3 := hB.trans (hB2.mono hB.size); clear D10 hown hB hB2))
      go_loopw [9, 10] (fun v xv ws => ∃ x' y' : Nat, ∃ ms : List Int, s ≤ x' ∧ x' ≤ x ∧ xv = .int .i64 x' ∧ (x' : Int) - y' = 2 * (t : Int) - d ∧
        ws.ownsRow w.heap.size 29 1 v ms.length (mcells ms) ∧ okPath a b n m ms.reverse x' y' (D - d) ∧ Below w.heap.size w ws) (fun _ xv _ => (intOf xv).toNat - s)
      case atStart => exact ⟨x, y, ms, by omega, by omega, rfl, hxy, hown2, hp, hB3⟩
      case round =>
        clear hown2 hB3 hp ms
        obtain ⟨x', y', ms, hsx, hxx, rfl, hxy', hown, hp, hB⟩ := hrel
        have hlen := okPath_len _ _ _ _ hp
        have hpl := okPath_lcs _ _ _ _ hp
        rw [List.length_reverse] at hlen
        by_cases hlt : s < x'
        · obtain ⟨x'', rfl⟩ : ∃ x'', x' = x'' + 1 := ⟨x' - 1, by omega⟩
          obtain ⟨y'', rfl⟩ : ∃ y'', y' = y'' + 1 := ⟨y' - 1, by omega⟩
          have he := c6 x'' (by omega) (by omega)
          rw [show ((x'' : Int) - (2 * (t : Int) - d)).toNat = y'' by omega] at he
          have hp' := path_keep hp (by omega) (by omega) he
          clear he
          go_wp2_with (first
            | (at_builtin; refine wpList_append_own _ rfl _ _ 27 rfl w.heap.size 29 i29 (.int .u8 0) 1 1 Try.underlying27 hi hz0 hz1 hz2 rfl (by decide) _ _ _ rfl (hown.alloc _) ⟨wr.heap.size, 0, none⟩ 1 1 [.int .u8 0] rfl rfl ?c1 ?c2 ?c3 ?c4 ?c5 ?_))
          case c1 =>
            intro j u hj
            match j, hj with
            | 0, hj => simp at hj; subst hj; simp [Addr.add]
          case c2 => intro u hu; simp at hu; subst hu; rfl
          case c3 => unfold maxLen; omega
          case c4 => omega
          case c5 => have := hB.size; simp; omega
          · intro v' w3 hown' hgrow _
            have hown3 := own_snoc hown'
            have hB3 := (hB.alloc hB.size _).grown hgrow (by have := hB.size; simp; omega) (fun k hk => (hown.lt k hk).1)
            clear hown' hgrow hown
            go_wp2
            go_roundw
            case rel => exact ⟨x'', y'', ms ++ [0], by omega, by omega, by go_num, by omega, hown3, hp', hB3⟩
            case measure => simp [intOf]; omega
        · obtain rfl : x' = s := by omega
          clear c6 hxy
          cases d with
          | zero =>
            have hx0 : x' = 0 := by have := HS.out; rw [st_zero] at this; omega
            subst hx0
            obtain rfl : t = 0 := by omega
            obtain rfl : y' = 0 := by omega
            rcases hown.2 with ⟨rfl, hl0⟩ | ⟨g', cp, cur, rfl, _⟩
            · have hms : ms = [] := List.eq_nil_of_length_eq_zero hl0
              subst hms
              go_wp2_with (first | (go_at_call 11; refine (rev_nil _).mono ?_; rintro e w3 ⟨rfl, rfl⟩))
              go_ret
              exact ⟨[], hp, _, rfl, .inl ⟨rfl, rfl⟩, hB⟩
            · obtain ⟨_, hle, hBg, F, hF, hFv⟩ := own_row hown
              have DR := rev_any g' ms.length cp w.heap.size (fun t => ms.getD t 0) F wr hle (by omega) hBg hF hFv
              clear hown
              go_wp2_with (first | (go_at_call 11; refine DR.mono ?_; rintro e w3 ⟨rfl, ⟨F', hF', hFv'⟩, hB3⟩))
              go_ret
              refine ⟨ms.reverse, hp, .slice (some ⟨g', 0, none⟩) ms.length cp, rfl, .inr ⟨g', cp, F', by rw [List.length_reverse], by rw [List.length_reverse]; exact hle, hF', fun t ht => ?_⟩, hB.trans hB3⟩
              rw [List.length_reverse] at ht
              rw [hFv' t ht, rev_get rfl ht]
          | succ e =>
            rcases st_from (T := T) (n := n) (m := m) ht (by rw [HS.out]; omega) with ⟨t', rfl, h1, h2, h3, h4, h5⟩ | ⟨h1, h2, h3, h4, h5⟩
            · rw [HS.out] at h4
              rw [HF.out, show kk (e + 1) (t' + 1) = 2 * ((t' + 1 : Nat) : Int) - ((e + 1 : Nat) : Int) from rfl] at h5
              subst h5
              rcases hR e (by omega) t' h1 with hc | hc
              · omega
              · obtain ⟨x'', rfl⟩ : ∃ x'', x' = x'' + 1 := ⟨x' - 1, by omega⟩
                have hp' := path_drop hp (by omega)
                rw [show D - (e + 1) + 1 = D - e by omega] at hp'
                have hTx : T e (2 * t') = x'' := by omega
                have HT : Hid (T e (2 * t') = x'') := hTx
                clear h4 h3 h2 hc hTx HS HF HX
                go_wp2_with (first
                  | (at_builtin; refine wpList_append_own _ rfl _ _ 27 rfl w.heap.size 29 i29 (.int .u8 0) 1 1 Try.underlying27 hi hz0 hz1 hz2 rfl (by decide) _ _ _ rfl (hown.alloc _) ⟨wr.heap.size, 0, none⟩ 1 1 [.int .u8 1] rfl rfl ?c1 ?c2 ?c3 ?c4 ?c5 ?_))
                case c1 =>
                  intro j u hj
                  match j, hj with
                  | 0, hj => simp at hj; subst hj; simp [Addr.add]
                case c2 => intro u hu; simp at hu; subst hu; rfl
                case c3 => unfold maxLen; omega
                case c4 => omega
                case c5 => have := hB.size; simp; omega
                · intro v' w3 hown' hgrow _
                  have hown3 := own_snoc hown'
                  have hB3 := (hB.alloc hB.size _).grown hgrow (by have := hB.size; simp; omega) (fun k hk => (hown.lt k hk).1)
                  clear hown' hgrow hown
                  go_wp2
                  go_roundw
                  case rel => exact ⟨e, t', x'', y', ms ++ [1], by omega, h1, by go_num, by go_num, by go_num, HT.out, by omega, hown3, hp', hB3⟩
                  case measure => simp [intOf]
            · rw [HS.out] at h4
              rw [HF.out, show kk (e + 1) t = 2 * (t : Int) - ((e + 1 : Nat) : Int) from rfl] at h5
              subst h5
              rcases hR e (by omega) t h1 with hc | ⟨k1, k2, k3, k4, k5, _⟩
              · omega
              · rw [show kk e t = 2 * (t : Int) - e from rfl] at k4
                obtain ⟨y'', rfl⟩ : ∃ y'', y' = y'' + 1 := ⟨y' - 1, by omega⟩
                have hp' := path_add hp (by omega)
                rw [show D - (e + 1) + 1 = D - e by omega] at hp'
                have HT : Hid (T e (2 * t) = x') := h4.symm
                clear h4 h3 h2 k1 k2 k3 k4 k5 HS HF HX
                go_wp2_with (first
                  | (at_builtin; refine wpList_append_own _ rfl _ _ 27 rfl w.heap.size 29 i29 (.int .u8 0) 1 1 Try.underlying27 hi hz0 hz1 hz2 rfl (by decide) _ _ _ rfl (hown.alloc _) ⟨wr.heap.size, 0, none⟩ 1 1 [.int .u8 2] rfl rfl ?c1 ?c2 ?c3 ?c4 ?c5 ?_))
                case c1 =>
                  intro j u hj
                  match j, hj with
                  | 0, hj => simp at hj; subst hj; simp [Addr.add]
                case c2 => intro u hu; simp at hu; subst hu; rfl
                case c3 => unfold maxLen; omega
                case c4 => omega
                case c5 => have := hB.size; simp; omega
                · intro v' w3 hown' hgrow _
                  have hown3 := own_snoc hown'
                  have hB3 := (hB.alloc hB.size _).grown hgrow (by have := hB.size; simp; omega) (fun k hk => (hown.lt k hk).1)
                  clear hown' hgrow hown
                  go_wp2
                  go_roundw
                  case rel => exact ⟨e, t, x', y'', ms ++ [2], by omega, h1, by go_num, by go_num, rfl, HT.out, by omega, hown3, hp', hB3⟩
                  case measure => simp [intOf]

theorem zedits_any (w : World) (B R cap D t0 n m : Nat) (g : Nat → Nat) (T : Nat → Nat → Int) (a b : Nat → Int) (hn : n ≤ 512) (hm : m ≤ 512) (hD : D ≤ n + m) (hcap : D + 1 ≤ cap)
    (hT : Tab w B R (D + 1) cap g T) (hR : ∀ d, d ≤ D → RowOk a b n m T d) (ht0 : t0 ≤ D) (hk0 : kk D t0 = (n : Int) - m) (hx0 : T D (2 * t0) = n) :
    Calls Try.prog 6 #[.slice (some ⟨R, 0, none⟩) (D + 1) cap, .int .i64 ((n : Int) - m), .int .i64 n, .int .i64 m] w fun e w' => ∃ mv : List Int, okPath a b n m mv 0 0 D ∧ ∃ v, e = .returned v ∧
      ((mv = [] ∧ v = .slice none 0 0) ∨ ∃ g' cp F, v = .slice (some ⟨g', 0, none⟩) mv.length cp ∧ mv.length ≤ cp ∧ w'.rowIs g' 29 cp F ∧ ∀ t, t < mv.length → F t = .int .u8 (mv.getD t 0)) ∧ Below w.heap.size w w' := by
  have E := edits_any w B R cap D t0 n m g T a b hn hm hD hcap hT hR ht0 hk0 hx0
  clear hT hR hk0 hx0
  go_enter Try.func6, Try.ntmps6
  go_wp2_with (first | (go_at_call 9; refine E.mono ?_; rintro e w' ⟨mv, hp, v, rfl, hv, hB⟩))
  go_ret
  exact ⟨mv, hp, v, rfl, hv, hB⟩

theorem zz_yes (a0 a1 : Option Addr) (n0 c0 n1 c1 : Nat) (w : World) (h : n0 + n1 ≤ 1048576) :
    Calls Try.prog 4 #[.slice a0 n0 c0, .slice a1 n1 c1] w fun e w' => e = .returned (.bool true) ∧ w = w' := by
  go_enter Try.func4, Try.ntmps4
  go_wp2
  go_ret
  exact ⟨rfl, rfl⟩
theorem zz_no (a0 a1 : Option Addr) (n0 c0 n1 c1 : Nat) (w : World) (h0 : n0 ≤ 9223372036854775807) (h1 : n1 ≤ 9223372036854775807) (h : 1048576 < n0 + n1) :
    Calls Try.prog 4 #[.slice a0 n0 c0, .slice a1 n1 c1] w fun e w' => e = .returned (.bool false) ∧ w = w' := by
  go_enter Try.func4, Try.ntmps4
  go_wp2
  all_goals (go_ret; exact ⟨rfl, rfl⟩)

end Go.Proofs.Qxb6621635a

/- The contract of zzForward. -/
import Derived.Test.Qxb6621635aTab
import Derived.Deep.QuietTactic
import Derived.BigQuiet
import Derived.WalkSmall
namespace Go.Proofs.Qxb6621635a
open Go.ChangeShapes Go.WideShapes Go.ChangeAt Go.RowKit

theorem Try.info22 : (Try.prog.info? 22).map (fun i => (i.zero, i.size, i.bytes)) = some (some (.slice none 0 0), 1, 24) := by kernel_rfl

theorem made0 (w : World) (N : Nat) : (w.alloc (.cells (madeCells #[.slice none 0 0] N) 22)).rowIs w.heap.size 22 N (fun _ => .slice none 0 0) := World.rowIs_made w _ _ _

theorem slot_set {a b : Nat → Int} {n m d t s u v : Nat} {T2 T3 : Nat → Nat → Int} (hag : ∀ d', d' < d → ∀ i, T3 d' i = T2 d' i)
    (hok : ∀ t', t' < t → CellOk a b n m (st T3 n m d t') (T3 d (2 * t')) (kk d t')) (hun : ∀ t', t ≤ t' → T3 d (2 * t') = -1)
    (HS : Hid (st T3 n m d t = s)) (hsu : s ≤ u) (hu : u ≤ n) (hv : v ≤ m) (huv : (u : Int) - v = 2 * (t : Int) - d) (s3 : 0 ≤ (s : Int) - (2 * (t : Int) - d))
    (heq : ∀ q : Nat, (s : Int) ≤ q → (q : Int) < u → a q = b ((q : Int) - kk d t).toNat) :
    (∀ d', d' < d → ∀ i, upd T3 d (2 * t) u d' i = T2 d' i) ∧ (∀ t', t' < t + 1 → CellOk a b n m (st (upd T3 d (2 * t) u) n m d t') (upd T3 d (2 * t) u d (2 * t')) (kk d t')) ∧
      (∀ t', t + 1 ≤ t' → upd T3 d (2 * t) u d (2 * t') = -1) := by
  have e : ∀ t', st (upd T3 d (2 * t) u) n m d t' = st T3 n m d t' := fun t' => st_congr fun d' hd i => upd_row _ _ _ _ (by omega) _
  refine ⟨fun d' hd i => ?_, fun t' ht' => ?_, fun t' ht' => ?_⟩
  · rw [upd_row _ _ _ _ (by omega)]; exact hag d' hd i
  · rw [e]
    by_cases h : t' = t
    · subst h
      rw [upd_at, HS.out]
      exact .inr ⟨by omega, by omega, by omega, s3, by unfold kk; omega, heq⟩
    · rw [upd_idx _ _ _ _ _ (by omega)]
      exact hok t' (by omega)
  · rw [upd_idx _ _ _ _ _ (by omega)]
    exact hun t' (by omega)

theorem slot_done {a b : Nat → Int} {n m d t s u v : Nat} {T3 : Nat → Nat → Int} (hdone : ∀ t', t' < t → DoneAt a b n m T3 d t')
    (HS : Hid (st T3 n m d t = s)) (hsu : s ≤ u) (huv : (u : Int) - v = 2 * (t : Int) - d) (hmax : Hid (u = n ∨ v = m ∨ ¬ a u = b v)) (hend : ¬ (u = n ∧ v = m)) :
    ∀ t', t' < t + 1 → DoneAt a b n m (upd T3 d (2 * t) u) d t' := by
  have e : ∀ t', st (upd T3 d (2 * t) u) n m d t' = st T3 n m d t' := fun t' => st_congr fun d' hd i => upd_row _ _ _ _ (by omega) _
  intro t' ht'
  unfold DoneAt
  rw [e]
  by_cases h : t' = t
  · subst h
    rw [upd_at, HS.out]
    have e2 : (u : Int) - kk d t' = v := by unfold kk; omega
    rw [e2]
    intro _
    refine ⟨by omega, ?_, by omega⟩
    have := hmax.out
    simp only [Int.toNat_natCast]
    omega
  · rw [upd_idx _ _ _ _ _ (by omega)]
    exact hdone t' (by omega)

theorem row_end {a b : Nat → Int} {n m d t u : Nat} {T2 T3 : Nat → Nat → Int} (hR2 : ∀ d', d' < d → RowOk a b n m T2 d')
    (h1 : ∀ d', d' < d → ∀ i, upd T3 d (2 * t) u d' i = T2 d' i) (h2 : ∀ t', t' < t + 1 → CellOk a b n m (st (upd T3 d (2 * t) u) n m d t') (upd T3 d (2 * t) u d (2 * t')) (kk d t'))
    (h3 : ∀ t', t + 1 ≤ t' → upd T3 d (2 * t) u d (2 * t') = -1) : ∀ d', d' ≤ d → RowOk a b n m (upd T3 d (2 * t) u) d' := by
  intro d' hd
  by_cases e : d' = d
  · subst e
    intro t' _
    by_cases h : t' < t + 1
    · exact h2 t' h
    · exact .inl (h3 t' (by omega))
  · exact (hR2 d' (by omega)).congr fun e he i => h1 e (by omega) i

set_option maxRecDepth 100000 in
set_option maxHeartbeats 1000000 in
theorem fwd_any (a0 b0 : Option Addr) (n c0 m c1 : Nat) (a b : Nat → Int) (w : World) (hn : n ≤ 512) (hm : m ≤ 512) (la : Lies w a0 n a) (lb : Lies w b0 m b) :
    Calls Try.prog 5 #[.slice a0 n c0, .slice b0 m c1] w fun e w' => ∃ D : Nat, ∃ g T, e = .returned (.tuple #[.slice (some ⟨w.heap.size, 0, none⟩) (D + 1) (n + m + 1), .bool true]) ∧
      Tab w' w.heap.size w.heap.size (D + 1) (n + m + 1) g T ∧ (∀ d, d ≤ D → RowOk a b n m T d) ∧ D + 2 * sfx a b n m 0 0 ≤ n + m ∧ (∃ t, t ≤ D ∧ kk D t = (n : Int) - m ∧ T D (2 * t) = n) ∧ Below w.heap.size w w' := by
  obtain ⟨i22, hi, hz0, hz1, hz2⟩ := info_parts Try.info22
  have hmk0 := fun w => run_make (P := Try.prog) (w := w) 24 22 i22 _ Try.underlying24 hi hz0 .i64 .i64 0 ((n : Int) + m + 1) (by omega) (by omega) (by rw [hz2]; omega) (by omega)
  rw [hz1] at hmk0
  have e1 : ((n : Int) + m + 1).toNat = n + m + 1 := by omega
  rw [e1] at hmk0
  simp only [Value.cells, Nat.mul_one, Int.toNat_zero] at hmk0
  clear e1
  have T0 : Tab (w.alloc (.cells (madeCells #[.slice none 0 0] (n + m + 1)) 22)) w.heap.size w.heap.size 0 (n + m + 1) (fun _ => 0) (fun _ _ => 0) :=
    ⟨⟨_, made0 w _, fun i hi => absurd hi (by omega)⟩, fun i hi => absurd hi (by omega), fun i hi => absurd hi (by omega), fun i _ hi => absurd hi (by omega), Nat.le_refl _, fun i hi => absurd hi (by omega)⟩
  have B0 : Below w.heap.size w (w.alloc (.cells (madeCells #[.slice none 0 0] (n + m + 1)) 22)) := (Below.refl _ _).alloc (Nat.le_refl _) _
  go_enter Try.func5, Try.ntmps5
  go_wp2
  go_loopw [8, 9] (fun r i wr => ∃ d : Nat, ∃ g T, d ≤ n + m + 1 ∧ i = .int .i64 d ∧ r = .slice (some ⟨w.heap.size, 0, none⟩) d (n + m + 1) ∧ Tab wr w.heap.size w.heap.size d (n + m + 1) g T ∧
      (∀ d', d' < d → RowOk a b n m T d') ∧ Wit a b n m T d ∧ Below w.heap.size w wr) (fun _ i _ => n + m + 1 - (intOf i).toNat)
  case atStart => exact ⟨0, _, _, by omega, rfl, rfl, T0, fun d' h => absurd h (by omega), wit_zero, B0⟩
  case round =>
    rename World => w1
    clear T0 B0 hmk0
    obtain ⟨d, g, T, hd, rfl, rfl, hT, hR, hW, hB⟩ := hrel
    have hbd := wit_bound hW
    have hd' : d ≤ n + m := by omega
    have hmk := run_make_row' (P := Try.prog) 22 3 (.int .i64 0) 8 Try.underlying22 Try.info3 rfl .i64 .i64 (2 * d + 1) (by omega) (by omega) w1
    rw [show ((2 * d + 1 : Nat) : Int) = 2 * (d : Int) + 1 by omega] at hmk
    have hG0 : (w1.alloc (.cells (madeCells #[.int .i64 0] (2 * d + 1)) 3)).rowIs w1.heap.size 3 (2 * d + 1) (frow 0) := (World.rowIs_made w1 (.int .i64 0) (2 * d + 1) 3).congr fun j _ => by unfold frow; rw [if_neg (by omega)]
    have hT0 := hT.alloc (.cells (madeCells #[.int .i64 0] (2 * d + 1)) 3)
    have hB0 : Below w.heap.size w (w1.alloc (.cells (madeCells #[.int .i64 0] (2 * d + 1)) 3)) := hB.alloc hB.size _
    have hGR : w1.heap.size ≠ w.heap.size := by have := hT.ltR; omega
    have hGg : ∀ i, i < d → g i ≠ w1.heap.size := fun i hi => by have := (hT.rows i hi).lt; omega
    have hGB : w.heap.size ≤ w1.heap.size := hB.size
    go_wp2
    go_loopw [11] (fun i ws => ∃ k : Nat, k ≤ 2 * d + 1 ∧ i = .int .i64 k ∧ ws.rowIs w1.heap.size 3 (2 * d + 1) (frow k) ∧ Tab ws w.heap.size w.heap.size d (n + m + 1) g T ∧ Below w.heap.size w ws) (fun i _ => 2 * d + 1 - (intOf i).toNat)
    case atStart => exact ⟨0, by omega, rfl, hG0, hT0, hB0⟩
    case round =>
      clear hG0 hT0 hB0 hmk hT hB
      obtain ⟨k, hk, rfl, hG, hT, hB⟩ := hrel
      by_cases hlt : k < 2 * d + 1
      · have d1 := hG.cell hlt
        have f1 := hG.frozen k
        go_wp2
        go_roundw
        case rel => exact ⟨k + 1, by omega, by go_num, frow_step _ _ _ _ hG, hT.setOther (Ne.symm hGR) hGg _, hB.setCell hGB _⟩
        case measure => simp [intOf]; omega
      · obtain rfl : k = 2 * d + 1 := by omega
        have hG1 := frow_done _ _ _ hG
        clear hG
        obtain ⟨xs, hown, hxs⟩ := hT.heads (by omega) (by unfold maxLen; omega)
        go_wp2_with (first
          | (at_builtin; refine wpList_append_fits _ rfl _ _ 24 rfl w.heap.size 22 i22 1 Try.underlying24 hi hz1 w.heap.size d (n + m + 1) xs rfl (hown.alloc _) ⟨wr.heap.size, 0, none⟩ 1 1 [.slice (some ⟨w1.heap.size, 0, none⟩) (2 * d + 1) (2 * d + 1)] rfl rfl ?_ ?_ (by omega) ?_))
        · intro j u hj
          match j, hj with
          | 0, hj => simp at hj; subst hj; simp [Addr.add]
        · intro u hu; simp at hu; subst hu; rfl
        · intro w2 hown2 hgrow
          have hT2 := (hT.alloc _).append hxs (hG1.alloc _) hGR hGg hGB hown2 hgrow
          have hB2 := (hB.alloc hB.size _).grown hgrow (by have := hB.size; simp; omega) (fun k hk => by cases hk; exact Nat.le_refl _)
          have hR2 : ∀ d', d' < d → RowOk a b n m (fresh T d) d' := fun d' h => (hR d' h).congr fun e he i => fresh_row _ _ (by omega) _
          have hW2 : Wit a b n m (fresh T d) d := hW.congr fun e he i => fresh_row _ _ (by omega) _
          have hf2 : ∀ i, fresh T d d i = -1 := fresh_at T d
          generalize fresh T d = T2 at hT2 hR2 hW2 hf2
          generalize hgg : (fun i => if i = d then w1.heap.size else g i) = g2 at hT2
          have hg2 : g2 d = w1.heap.size := by rw [← hgg]; exact if_pos rfl
          clear hgg hgrow hown2 hown hxs hT hB hG1 hGg hR hW
          go_wp2
          go_loopw [12] (fun i ws => ∃ t : Nat, ∃ T3, t ≤ d + 1 ∧ i = .int .i64 (2 * (t : Int) - d) ∧ Tab ws w.heap.size w.heap.size (d + 1) (n + m + 1) g2 T3 ∧ (∀ d', d' < d → ∀ i, T3 d' i = T2 d' i) ∧
              (∀ t', t' < t → CellOk a b n m (st T3 n m d t') (T3 d (2 * t')) (kk d t')) ∧ (∀ t', t' < t → DoneAt a b n m T3 d t') ∧ (∀ t', t ≤ t' → T3 d (2 * t') = -1) ∧ Below w.heap.size w ws) (fun i _ => ((d : Int) + 2 - intOf i).toNat)
          case atStart => exact ⟨0, T2, by omega, by go_num, hT2, fun _ _ _ => rfl, fun t' h => absurd h (by omega), fun t' h => absurd h (by omega), fun t' _ => hf2 _, hB2⟩
          case round =>
            rename World => w3
            clear hT2 hB2 hf2
            obtain ⟨t, T3, ht, rfl, hT3, hag, hok, hdone, hun, hB3⟩ := hrel
            have hR3 : ∀ d', d' < d → RowOk a b n m T3 d' := fun d' h => (hR2 d' h).congr fun e he i => hag e (by omega) i
            have hW3 : Wit a b n m T3 d := hW2.congr hag
            by_cases hlt : t ≤ d
            · have D8 := zlast_any w3 _ d (kk d t) n m _ _ (last_any w3 w.heap.size (d + 1) (n + m + 1) d t n m a b T3 (by omega) hlt (by omega) (by omega) hR3 (fun e he => hT3.rowAt (by omega) (by omega)))
              rw [show kk d t = 2 * (t : Int) - d from rfl] at D8
              generalize fr T3 n m d t = fx at D8
              by_cases hs : st T3 n m d t = -1
              · have hok' : ∀ t', t' < t + 1 → CellOk a b n m (st T3 n m d t') (T3 d (2 * t')) (kk d t') := fun t' h => by
                  by_cases e : t' = t
                  · subst e; exact .inl (hun _ (Nat.le_refl _))
                  · exact hok t' (by omega)
                have hdone' : ∀ t', t' < t + 1 → DoneAt a b n m T3 d t' := fun t' h => by
                  by_cases e : t' = t
                  · subst e; intro h0; omega
                  · exact hdone t' (by omega)
                rw [hs] at D8
                clear hs
                go_wp2_with (first | (go_at_call 8; refine D8.mono ?_; rintro e w4 ⟨rfl, hB4⟩))
                go_roundw
                case rel => exact ⟨t + 1, T3, by omega, by go_num, hT3.later hB4, hag, hok', hdone', fun t' h => hun t' (by omega), hB3.trans (hB4.mono hB3.size)⟩
                case measure => simp [intOf]; omega
              · obtain ⟨s1, s2, s3, s4⟩ := st_in hR3 hlt hs
                rw [show kk d t = 2 * (t : Int) - d from rfl] at s3 s4
                obtain ⟨s, hs'⟩ : ∃ s : Nat, st T3 n m d t = s := ⟨(st T3 n m d t).toNat, by omega⟩
                rw [hs'] at D8 s1 s2 s3 s4
                have HS : Hid (st T3 n m d t = s) := hs'
                clear hs' hs
                go_wp2_with (first | (go_at_call 8; refine D8.mono ?_; rintro e w4 ⟨rfl, hB4⟩; have hT4 := hT3.later hB4; have hB5 := hB3.trans (hB4.mono hB3.size); clear D8 hT3 hB3 hB4))
                go_loopw [13, 15] (fun x y ws => ∃ u v : Nat, x = .int .i64 u ∧ y = .int .i64 v ∧ (u : Int) - v = 2 * (t : Int) - d ∧ s ≤ u ∧ u ≤ n ∧ v ≤ m ∧ (∀ q : Nat, (s : Int) ≤ q → (q : Int) < u → a q = b ((q : Int) - kk d t).toNat) ∧
                  Tab ws w.heap.size w.heap.size (d + 1) (n + m + 1) g2 T3 ∧ Below w.heap.size w ws) (fun x _ _ => n - (intOf x).toNat)
                case atStart => exact ⟨s, ((s : Int) - (2 * (t : Int) - d)).toNat, rfl, by go_num, by omega, by omega, by omega, by omega, fun q h1 h2 => absurd h1 (by omega), hT4, hB5⟩
                case round =>
                  clear hT4 hB5
                  obtain ⟨u, v, rfl, rfl, huv, hsu, hun', hvm, heq, hT, hB⟩ := hrel
                  have hrow := hT.rows d (by omega)
                  rw [hg2] at hrow
                  have cst := hrow.cell (i := 2 * t) (by omega)
                  have fst := hrow.frozen (2 * t)
                  by_cases hgo : u < n ∧ v < m ∧ a u = b v
                  · obtain ⟨g1, g2', g3⟩ := hgo
                    obtain ⟨ba, oa, rfl, hca⟩ := la.resolve_left (by omega)
                    obtain ⟨bb, ob, rfl, hcb⟩ := lb.resolve_left (by omega)
                    have c1 := cell_later hB (hca u g1)
                    have c2 := cell_later hB (hcb v g2')
                    have i1 : (u : Int) < n := by omega
                    have i2 : (v : Int) < m := by omega
                    have i3 : (0 : Int) ≤ u := by omega
                    have i4 : (0 : Int) ≤ v := by omega
                    have he' : (a u == b v) = true := beq_iff_eq.2 g3
                    have heq' : ∀ q : Nat, (s : Int) ≤ q → (q : Int) < ((u + 1 : Nat) : Int) → a q = b ((q : Int) - kk d t).toNat := fun q h1 h2 => by
                      by_cases e : q = u
                      · subst e; rw [g3]; congr 1; unfold kk; omega
                      · exact heq q h1 (by omega)
                    clear heq g3
                    go_wp2
                    go_quiet (fail)
                    go_wp2
                    go_roundw
                    case rel => exact ⟨u + 1, v + 1, by go_num, by go_num, by omega, by omega, by omega, by omega, heq', hT.of_blocks fun _ _ => rfl, below_drewN hB _⟩
                    case measure => simp [intOf]; omega
                  · have hmax : Hid (u = n ∨ v = m ∨ ¬ a u = b v) := by
                      have : u = n ∨ v = m ∨ ¬ a u = b v := by omega
                      exact this
                    obtain ⟨q1, q2, q3⟩ := slot_set hag hok hun HS hsu hun' hvm huv s3 heq
                    by_cases g1 : u < n
                    · have q4 := slot_done (v := v) hdone HS hsu huv hmax (by omega)
                      have i1 : (u : Int) < n := by omega
                      have i3 : (0 : Int) ≤ u := by omega
                      have i4 : (0 : Int) ≤ v := by omega
                      by_cases g2' : v < m
                      · have g3 : ¬ a u = b v := fun h => hgo ⟨g1, g2', h⟩
                        have i2 : (v : Int) < m := by omega
                        obtain ⟨ba, oa, rfl, hca⟩ := la.resolve_left (by omega)
                        obtain ⟨bb, ob, rfl, hcb⟩ := lb.resolve_left (by omega)
                        have c1 := cell_later hB (hca u g1)
                        have c2 := cell_later hB (hcb v g2')
                        have he' : (a u == b v) = false := beq_eq_false_iff_ne.2 g3
                        clear hgo heq g3
                        go_wp2
                        go_quiet (fail)
                        go_wp2
                        go_roundw
                        case rel =>
                          have hfin := (hT.of_blocks (w' := wr.drewN nq) fun _ _ => rfl).set (d := d) (by omega) (2 * t) u
                          rw [hg2] at hfin
                          exact ⟨t + 1, upd T3 d (2 * t) u, by omega, by go_num, hfin, q1, q2, q4, q3, (below_drewN hB _).setCell hGB _⟩
                        case measure => simp [intOf]; omega
                      · have i2 : decide ((v : Int) < m) = false := by simp; omega
                        clear hgo heq
                        go_wp2
                        go_quiet (fail)
                        go_wp2
                        go_roundw
                        case rel =>
                          have hfin := (hT.of_blocks (w' := wr.drewN nq) fun _ _ => rfl).set (d := d) (by omega) (2 * t) u
                          rw [hg2] at hfin
                          exact ⟨t + 1, upd T3 d (2 * t) u, by omega, by go_num, hfin, q1, q2, q4, q3, (below_drewN hB _).setCell hGB _⟩
                        case measure => simp [intOf]; omega
                    · obtain rfl : u = n := by omega
                      have i1 : decide ((u : Int) < u) = false := by simp
                      clear hgo heq
                      by_cases hend : v = m
                      · subst hend
                        go_wp2
                        go_quiet (fail)
                        go_wp2
                        go_ret2
                        refine ⟨d, g2, upd T3 d (2 * t) u, rfl, ?_, row_end hR2 q1 q2 q3, hbd, ⟨t, hlt, by unfold kk; omega, upd_at _ _ _ _⟩, (below_drewN hB _).setCell hGB _⟩
                        have hfin := (hT.of_blocks (w' := wr.drewN nq) fun _ _ => rfl).set (d := d) (by omega) (2 * t) u
                        rw [hg2] at hfin
                        exact hfin
                      · have q4 := slot_done (v := v) hdone HS hsu huv hmax (by omega)
                        go_wp2
                        go_quiet (fail)
                        go_wp2
                        go_roundw
                        case rel =>
                          have hfin := (hT.of_blocks (w' := wr.drewN nq) fun _ _ => rfl).set (d := d) (by omega) (2 * t) u
                          rw [hg2] at hfin
                          exact ⟨t + 1, upd T3 d (2 * t) u, by omega, by go_num, hfin, q1, q2, q4, q3, (below_drewN hB _).setCell hGB _⟩
                        case measure => simp [intOf]; omega
            · obtain rfl : t = d + 1 := by omega
              have hW4 := wit_succ hW3 (fun t' h => hok t' (by omega)) (fun t' h => hdone t' (by omega))
              have hR4 : ∀ d', d' < d + 1 → RowOk a b n m T3 d' := fun d' h => by
                by_cases e : d' = d
                · subst e; exact fun t' h => hok t' (by omega)
                · exact hR3 d' (by omega)
              clear hok hdone hun hag
              go_wp2
              go_roundw
              case rel => exact ⟨d + 1, g2, T3, by omega, by go_num, rfl, hT3, hR4, hW4, hB3⟩
              case measure => simp [intOf]; omega
end Go.Proofs.Qxb6621635a

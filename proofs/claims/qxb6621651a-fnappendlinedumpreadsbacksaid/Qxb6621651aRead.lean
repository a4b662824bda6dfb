/- Lists of strings dumped line by line and read back: the reader's state in memory, and the walk of the check where the three lists are equally long. -/
import Derived.Test.Qxb6621651aLists
import Derived.Deep.QuietTactic
import Derived.BigQuiet
namespace Go.Proofs.Qxb6621651a
open Go.ChangeShapes Go.WideShapes Go.ChangeAt Go.RowKit

theorem thn {w w1 w2 : World} (h : Below w.heap.size w w1) (k : Below w1.heap.size w1 w2) : Below w.heap.size w w2 := h.trans (k.mono h.size)
theorem LiesS.later {w w' : World} (hb : Below w.heap.size w w') {a : Option Addr} {n : Nat} {z : Nat → ByteArray} (h : LiesS w a n z) : LiesS w' a n z := by
  rcases h with h | ⟨b, off, ha, hc⟩
  · exact .inl h
  · exact .inr ⟨b, off, ha, fun i hi => cell_later hb (hc i hi)⟩

/-- 'append(v, x)' of one element of one cell, v the call's own. -/
theorem app_one (t e : TypeId) (z : Value) (bytes : Nat) (hu : Try.prog.underlying t = some (.slice e)) (hinfo : (Try.prog.info? e).map (fun i => (i.zero, i.size, i.bytes)) = some (some z, 1, bytes)) (hz1 : z.cells.size = 1)
    (base : Nat) (w : World) (v : Value) (xs : List Value) (x : Value) (hown : w.ownsRow base e 1 v xs.length xs) (hone : x.oneCell' = true) (hb : (xs.length + 1) * bytes ≤ 140737488355328) (hlen : xs.length + 1 ≤ maxLen) (hbase : base ≤ w.heap.size) :
    ∃ v' w', (Builtin.append_ #[t, t] t #[v, .slice (some ⟨w.heap.size, 0, none⟩) 1 1]).run Try.prog (w.alloc (.cells #[x] e)) = .ok v' w' ∧ w'.ownsRow base e 1 v' (xs ++ [x]).length (xs ++ [x]) ∧ w.grownBy w' v.ownBlock ∧
      (v'.ownBlock = v.ownBlock ∨ ∃ k, v'.ownBlock = some k ∧ w.heap.size ≤ k) := by
  obtain ⟨i, hi, hz0, hs1, hs2⟩ := info_parts hinfo
  obtain ⟨v', w', hr, h2, h3, _, h5⟩ := run_append_own_at (P := Try.prog) (w.alloc (.cells #[x] e)) base t t e i z 1 bytes hu hi hz0 hs1 hs2 hz1 (by omega) v xs.length xs (hown.alloc _)
    ⟨w.heap.size, 0, none⟩ 1 1 [x] rfl
    (by intro j u hj
        match j, hj with
        | 0, hj => simp at hj; subst hj; simp [Addr.add])
    (by intro u hu; simp at hu; subst hu; exact hone) hlen hb (by simp; omega)
  refine ⟨v', w', hr, by rw [List.length_append]; exact h2, ⟨h3.os, h3.tape, h3.output, by have := h3.size; simp at this; omega, fun j hj hne => ?_⟩, ?_⟩
  · exact (h3.block j (by simp; omega) hne).trans (Below.heap_alloc w _ j hj)
  · rcases h5 with q | q
    · exact .inl q
    · exact .inr ⟨_, q, by simp⟩

/-- The shape of an owned value, and its cells. -/
theorem own_shape {w : World} {B n : Nat} {e : TypeId} {v : Value} {xs : List Value} (h : w.ownsRow B e 1 v n xs) :
    ∃ ao co, v = .slice ao n co ∧ n ≤ co ∧ (n = 0 ∨ ∃ g, ao = some ⟨g, 0, none⟩ ∧ B ≤ g ∧ g < w.heap.size ∧ ∀ t, t < n → w.cell? ⟨g, t, none⟩ = xs[t]?) := by
  rcases h.2 with ⟨rfl, rfl⟩ | ⟨g, cap, cur, rfl, hb, hg, hle, _, hsz, htake⟩
  · exact ⟨none, 0, rfl, Nat.le_refl _, .inl rfl⟩
  · exact ⟨_, cap, rfl, hle, .inr ⟨g, rfl, hb, (Array.getElem?_eq_some_iff.1 hg).1, fun t ht => h.cellAt t (by omega)⟩⟩

theorem Try.info9 : (Try.prog.info? 9).map (fun i => (i.zero, i.size, i.bytes)) = some (some (.string { data := #[] }), 1, 16) := by kernel_rfl
theorem Try.info3 : (Try.prog.info? 3).map (fun i => (i.zero, i.size, i.bytes)) = some (some (.int .i64 0), 1, 8) := by kernel_rfl

/-- No separator in the first k trades. -/
def NoSep (fu fp fa : Nat → ByteArray) (k : Nat) : Prop := ∀ i, i < k → sepB (fu i) = false ∧ sepB (fp i) = false ∧ sepB (fa i) = false
theorem NoSep.succ {fu fp fa : Nat → ByteArray} {k : Nat} (h : NoSep fu fp fa k) (h1 : sepB (fu k) = false) (h2 : sepB (fp k) = false) (h3 : sepB (fa k) = false) : NoSep fu fp fa (k + 1) := fun i hi => by
  by_cases e : i = k
  · subst e; exact ⟨h1, h2, h3⟩
  · exact h i (by omega)

/-! ### the reader's state in memory -/
def sfs (l : List (List Int)) : List Value := l.map fun x => .string (strOfNums x)
def ips (l : List Int) : List Value := l.map (Value.int .i64)
theorem sfs_length (l : List (List Int)) : (sfs l).length = l.length := List.length_map _
theorem ips_length (l : List Int) : (ips l).length = l.length := List.length_map _
theorem sfs_at {l : List (List Int)} {n i : Nat} {s : ByteArray} (hl : l.length = n) (hi : i < n) (h : l.getD i [] = bts s) : (sfs l)[i]? = some (.string s) := by
  have h1 : i < l.length := by omega
  have h2 : l[i] = bts s := by simpa [h1] using h
  simp [sfs, h1, h2, str_bts]
/-- The reader at place j: what it has read so far is S; fields and counts lie in rows of their own. -/
structure R3 (w6 wr : World) (D : List Int) (j st : Nat) (fv pv : Value) (S : Rd) : Prop where
  read : prs D j = S
  le : j ≤ D.length
  len : st + S.cur.length = j
  ownF : wr.ownsRow w6.heap.size 9 1 fv (sfs S.fs).length (sfs S.fs)
  ownP : wr.ownsRow w6.heap.size 3 1 pv (ips S.pl).length (ips S.pl)
  sep : ∀ q, fv.ownBlock = some q → pv.ownBlock ≠ some q
  bel : Below w6.heap.size w6 wr

theorem R3.start (w6 : World) (D : List Int) : R3 w6 w6 D 0 0 (.slice none 0 0) (.slice none 0 0) rd0 :=
  ⟨prs_zero D, by omega, rfl, World.ownsRow_nil _ _ _ _, World.ownsRow_nil _ _ _ _, fun q hq => (by cases hq), Below.refl _ _⟩
theorem R3.bds {w6 wr : World} {D : List Int} {j st : Nat} {fv pv : Value} {S : Rd} (h : R3 w6 wr D j st fv pv S) : S.cnt ≤ j ∧ S.fs.length ≤ j ∧ S.pl.length ≤ j := by
  have := prs_inv D j h.le
  rw [h.read] at this
  exact ⟨this.2.2.2.2, this.2.2.1, this.2.2.2.1⟩
theorem R3.cur {w6 wr : World} {D : List Int} {j st : Nat} {fv pv : Value} {S : Rd} (h : R3 w6 wr D j st fv pv S) (i : Nat) (hi : i < S.cur.length) : S.cur.getD i 0 = D.getD (st + i) 0 := by
  have := (prs_inv D j h.le).2.1
  rw [h.read] at this
  rw [this i hi]
  congr 1
  have := h.len
  omega
/-- A plain byte. -/
theorem R3.plain {w6 wr : World} {D : List Int} {j st : Nat} {fv pv : Value} {S : Rd} (h : R3 w6 wr D j st fv pv S) (hj : j < D.length) (h1 : D.getD j 0 ≠ 44) (h2 : D.getD j 0 ≠ 10) :
    R3 w6 wr D (j + 1) st fv pv ⟨S.fs, S.pl, S.cur ++ [D.getD j 0], S.cnt⟩ :=
  ⟨by rw [prs_succ D j hj, h.read, stepS_else h1 h2], hj, by have := h.len; simp; omega, h.ownF, h.ownP, h.sep, h.bel⟩
/-- The field that ends at j goes to the fields. -/
theorem R3.field {w6 wr : World} {D : List Int} {j st : Nat} {fv pv : Value} {S : Rd} (h : R3 w6 wr D j st fv pv S) (hD : D.length ≤ 1048576) :
    ∃ fv' w1, (Builtin.append_ #[22, 22] 22 #[fv, .slice (some ⟨wr.heap.size, 0, none⟩) 1 1]).run Try.prog (wr.alloc (.cells #[.string (strOfNums S.cur)] 9)) = .ok fv' w1 ∧
      w1.ownsRow w6.heap.size 9 1 fv' (sfs (S.fs ++ [S.cur])).length (sfs (S.fs ++ [S.cur])) ∧ w1.ownsRow w6.heap.size 3 1 pv (ips S.pl).length (ips S.pl) ∧ (∀ q, fv'.ownBlock = some q → pv.ownBlock ≠ some q) ∧ Below w6.heap.size w6 w1 := by
  have hl := h.le
  have hb := h.bds
  have hz := h.bel.size
  obtain ⟨fv', w1, hr, ho, hg, hp⟩ := app_one 22 9 (.string { data := #[] }) 16 Try.underlying22 Try.info9 rfl w6.heap.size wr fv (sfs S.fs) (.string (strOfNums S.cur)) h.ownF rfl (by rw [sfs_length]; omega) (by rw [sfs_length]; unfold maxLen; omega) hz
  refine ⟨fv', w1, hr, by simpa [sfs] using ho, h.ownP.kept hg ?_, fun q hq => ?_, h.bel.grown hg hz fun q hq => (h.ownF.lt q hq).1⟩
  · cases hv : pv.ownBlock with
    | none => exact .inl rfl
    | some q => exact .inr fun e => h.sep q e.symm hv
  · rcases hp with e | ⟨x, e, hx⟩
    · exact h.sep q (e ▸ hq)
    · rw [e] at hq
      cases hq
      intro e2
      have := (h.ownP.lt _ e2).2
      omega
/-- A comma. -/
theorem R3.comma {w6 wr w1 : World} {D : List Int} {j st : Nat} {fv fv' pv : Value} {S : Rd} (h : R3 w6 wr D j st fv pv S) (hj : j < D.length) (h1 : D.getD j 0 = 44)
    (ho : w1.ownsRow w6.heap.size 9 1 fv' (sfs (S.fs ++ [S.cur])).length (sfs (S.fs ++ [S.cur]))) (hp : w1.ownsRow w6.heap.size 3 1 pv (ips S.pl).length (ips S.pl)) (hs : ∀ q, fv'.ownBlock = some q → pv.ownBlock ≠ some q) (hb : Below w6.heap.size w6 w1) :
    R3 w6 w1 D (j + 1) (j + 1) fv' pv ⟨S.fs ++ [S.cur], S.pl, [], S.cnt + 1⟩ :=
  ⟨by rw [prs_succ D j hj, h.read, h1, stepS_44], hj, rfl, ho, hp, hs, hb⟩
/-- A newline: the count goes to the counts. -/
theorem R3.newline {w6 wr w1 : World} {D : List Int} {j st : Nat} {fv fv' pv : Value} {S : Rd} (h : R3 w6 wr D j st fv pv S) (hj : j < D.length) (h1 : D.getD j 0 = 10) (hD : D.length ≤ 1048576)
    (ho : w1.ownsRow w6.heap.size 9 1 fv' (sfs (S.fs ++ [S.cur])).length (sfs (S.fs ++ [S.cur]))) (hp : w1.ownsRow w6.heap.size 3 1 pv (ips S.pl).length (ips S.pl)) (hs : ∀ q, fv'.ownBlock = some q → pv.ownBlock ≠ some q) (hb : Below w6.heap.size w6 w1) :
    ∃ pv' w2, (Builtin.append_ #[29, 29] 29 #[pv, .slice (some ⟨w1.heap.size, 0, none⟩) 1 1]).run Try.prog (w1.alloc (.cells #[.int .i64 ((S.cnt : Int) + 1)] 3)) = .ok pv' w2 ∧
      R3 w6 w2 D (j + 1) (j + 1) fv' pv' ⟨S.fs ++ [S.cur], S.pl ++ [((S.cnt + 1 : Nat) : Int)], [], 0⟩ := by
  have hbd := h.bds
  have hz := hb.size
  obtain ⟨pv', w2, hr, ho2, hg, hp2⟩ := app_one 29 3 (.int .i64 0) 8 Try.underlying29 Try.info3 rfl w6.heap.size w1 pv (ips S.pl) (.int .i64 ((S.cnt : Int) + 1)) hp rfl (by rw [ips_length]; omega) (by rw [ips_length]; unfold maxLen; omega) hz
  refine ⟨pv', w2, hr, by rw [prs_succ D j hj, h.read, h1, stepS_10], hj, rfl, ho.kept hg ?_, by simpa [ips] using ho2, fun q hq e => ?_, hb.grown hg hz fun q hq => (hp.lt q hq).1⟩
  · cases hv : fv'.ownBlock with
    | none => exact .inl rfl
    | some q => exact .inr fun e => hs q hv e.symm
  · rcases hp2 with e2 | ⟨x, e2, hx⟩
    · exact hs q hq (e2 ▸ e)
    · rw [e2] at e
      cases e
      have := (ho.lt _ hq).2
      omega

set_option maxRecDepth 100000 in
set_option maxHeartbeats 1000000 in
theorem walk_in (a0 a1 a2 : Option Addr) (n cu cp ca : Nat) (fu fp fa : Nat → ByteArray) (w : World) (bn : n ≤ 65536)
    (lu : LiesS w a0 n fu) (lp : LiesS w a1 n fp) (la : LiesS w a2 n fa) (mu : ∀ i, i < n → (fu i).size ≤ 9223372036854775807) (mp : ∀ i, i < n → (fp i).size ≤ 9223372036854775807) (ma : ∀ i, i < n → (fa i).size ≤ 9223372036854775807) :
    Calls Try.prog 3 #[.slice a0 n cu, .slice a1 n cp, .slice a2 n ca] w fun e w' => e = .returned (.bool true) ∧ Below w.heap.size w w' := by
  have Z := zzd_any a0 a1 a2 n cu n cp n ca fu fp fa w (by omega) (by omega) (by omega) lu lp la mu mp ma
  have F := fit_any a0 a1 a2 n cu n cp n ca fu fp fa w bn bn bn lu lp la mu mp ma
  go_enter Try.func3, Try.ntmps3
  go_wp2_with (first
    | (go_at_call 5; refine Z.mono ?_; rintro e w' ⟨⟨r1, rfl, _⟩, rfl⟩; clear Z)
    | (go_at_call 6; refine F.mono ?_; rintro e w' ⟨⟨r2, rfl, hfit⟩, rfl⟩; clear F))
  · go_ret
    exact ⟨rfl, Below.refl _ _⟩
  · go_ret
    exact ⟨rfl, Below.refl _ _⟩
  obtain rfl : r1 = true := by
    have h : (!r1) = false := by assumption
    simpa using h
  obtain rfl : r2 = true := by
    have h : (!r2) = false := by assumption
    simpa using h
  have hT := hfit rfl
  clear hfit
  simp only [Bool.not_true]
  have zu : ∀ i, i < n → (fu i).size ≤ 1048576 := fun i hi => by have := tot_at fu i n hi; omega
  have zp : ∀ i, i < n → (fp i).size ≤ 1048576 := fun i hi => by have := tot_at fp i n hi; omega
  have za : ∀ i, i < n → (fa i).size ≤ 1048576 := fun i hi => by have := tot_at fa i n hi; omega
  have zd : ∀ k, k ≤ n → (dump fu fp fa k).length ≤ 1048576 := fun k hk => by
    have h1 := dump_length fu fp fa k
    have h2 := tot_mono fu k n hk
    have h3 := tot_mono fp k n hk
    have h4 := tot_mono fa k n hk
    omega
  clear hT mu mp ma
  go_loopw [7] (fun i wr => ∃ k : Nat, k ≤ n ∧ i = .int .i64 k ∧ NoSep fu fp fa k ∧ w = wr) (fun i _ => n - (intOf i).toNat)
  case atStart => exact ⟨0, by omega, rfl, fun i hi => absurd hi (by omega), rfl⟩
  case round =>
    obtain ⟨k, hk, rfl, hno, rfl⟩ := hrel
    by_cases hlt : k < n
    · obtain ⟨bu, ou, rfl, hcu⟩ := lu.resolve_left (by omega)
      obtain ⟨bp, op, rfl, hcp⟩ := lp.resolve_left (by omega)
      obtain ⟨ba, oa, rfl, hca⟩ := la.resolve_left (by omega)
      have e1 := hcu k hlt
      have e2 := hcp k hlt
      have e3 := hca k hlt
      have D1 := hasSep_any (fu k) w (zu k hlt)
      have D2 := hasSep_any (fp k) w (zp k hlt)
      have D3 := hasSep_any (fa k) w (za k hlt)
      clear hcu hcp hca
      cases h1 : sepB (fu k) with
      | true =>
        rw [h1] at D1
        clear h1
        go_wp2_with (first | (go_at_call_has 7 (Value.string (fu k)); refine D1.mono ?_; rintro e w' ⟨rfl, rfl⟩))
        go_ret
        exact ⟨rfl, Below.refl _ _⟩
      | false =>
        cases h2 : sepB (fp k) with
        | true =>
          rw [h1] at D1
          rw [h2] at D2
          clear h1 h2
          go_wp2_with (first | (go_at_call_has 7 (Value.string (fu k)); refine D1.mono ?_; rintro e w' ⟨rfl, rfl⟩) | (go_at_call_has 7 (Value.string (fp k)); refine D2.mono ?_; rintro e w' ⟨rfl, rfl⟩))
          go_ret
          exact ⟨rfl, Below.refl _ _⟩
        | false =>
          cases h3 : sepB (fa k) with
          | true =>
            rw [h1] at D1
            rw [h2] at D2
            rw [h3] at D3
            clear h1 h2 h3
            go_wp2_with (first | (go_at_call_has 7 (Value.string (fu k)); refine D1.mono ?_; rintro e w' ⟨rfl, rfl⟩) | (go_at_call_has 7 (Value.string (fp k)); refine D2.mono ?_; rintro e w' ⟨rfl, rfl⟩) | (go_at_call_has 7 (Value.string (fa k)); refine D3.mono ?_; rintro e w' ⟨rfl, rfl⟩))
            go_ret
            exact ⟨rfl, Below.refl _ _⟩
          | false =>
            have hno2 := hno.succ h1 h2 h3
            rw [h1] at D1
            rw [h2] at D2
            rw [h3] at D3
            clear h1 h2 h3
            go_wp2_with (first | (go_at_call_has 7 (Value.string (fu k)); refine D1.mono ?_; rintro e w' ⟨rfl, rfl⟩) | (go_at_call_has 7 (Value.string (fp k)); refine D2.mono ?_; rintro e w' ⟨rfl, rfl⟩) | (go_at_call_has 7 (Value.string (fa k)); refine D3.mono ?_; rintro e w' ⟨rfl, rfl⟩))
            go_roundw
            case rel => exact ⟨k + 1, by omega, by go_num, hno2, trivial⟩
            case measure => simp [intOf]; omega
    · obtain rfl : k = n := by omega
      go_wp2
      go_loopw [8, 9] (fun v i wr => ∃ t : Nat, t ≤ k ∧ i = .int .i64 t ∧ wr.ownsRow w.heap.size 5 1 v (dump fu fp fa t).length (cls (dump fu fp fa t)) ∧ Below w.heap.size w wr) (fun _ i _ => k - (intOf i).toNat)
      case atStart => exact ⟨0, by omega, rfl, World.ownsRow_nil _ _ _ _, Below.refl _ _⟩
      case round =>
        obtain ⟨t, ht, rfl, hown, hB⟩ := hrel
        by_cases hltt : t < k
        · obtain ⟨bu, ou, rfl, hcu⟩ := lu.resolve_left (by omega)
          obtain ⟨bp, op, rfl, hcp⟩ := lp.resolve_left (by omega)
          obtain ⟨ba, oa, rfl, hca⟩ := la.resolve_left (by omega)
          have e1 := cell_later hB (hcu t hltt)
          have e2 := cell_later hB (hcp t hltt)
          have e3 := cell_later hB (hca t hltt)
          have t1 : bu < wr.heap.size := World.block_lt_of_cell? _ _ e1
          have t2 : bp < wr.heap.size := World.block_lt_of_cell? _ _ e2
          have t3 : ba < wr.heap.size := World.block_lt_of_cell? _ _ e3
          go_wp2
          go_region
          have zt := zd t (by omega)
          have z1 := zu t hltt
          have z2 := zp t hltt
          have z3 := za t hltt
          all_goals go_wp2_with (first | (go_at_call 8; refine (line_any w.heap.size _ _ (dump fu fp fa t) (fu t) (fp t) (fa t) ((hown.alloc _).drew) (by omega) (by have := hB.size; simp; omega)).mono ?_; rintro e w4 ⟨v', rfl, So⟩))
          have hB4 := ((hB.alloc hB.size _).drew).grown So.grow (by have := hB.size; simp; omega) (fun q hq => (hown.lt q hq).1)
          have hown4 := So.own
          clear So hown hB
          go_roundw
          case rel => exact ⟨t + 1, by omega, by go_num, hown4, hB4⟩
          case measure => simp [intOf]; omega
        · obtain rfl : t = k := by omega
          obtain ⟨ao, co, rfl, hco, hO⟩ := own_shape hown
          have HD : Hid (prs (dump fu fp fa t) (dump fu fp fa t).length = ⟨flds fu fp fa t, List.replicate t 3, [], 0⟩) := prs_dump fu fp fa t hno
          have zt := zd t (by omega)
          clear zu zp za zd hno hown hlt hk ht hltt
          generalize dump fu fp fa t = D at *
          rename World => w6
          go_wp2
          go_loopw [11, 12, 13, 14, 15] (fun fv pv sv cv jv wr => ∃ j st : Nat, ∃ S : Rd, jv = .int .i64 j ∧ sv = .int .i64 st ∧ cv = .int .i64 (S.cnt : Int) ∧ R3 w6 wr D j st fv pv S) (fun _ _ _ _ jv _ => D.length - (intOf jv).toNat)
          case atStart => exact ⟨0, 0, rd0, rfl, rfl, rfl, R3.start w6 D⟩
          case round =>
            obtain ⟨j, st, S, rfl, rfl, rfl, hR⟩ := hrel
            have hbd := hR.bds
            have hle := hR.le
            have hln := hR.len
            by_cases hlj : j < D.length
            · obtain ⟨g, rfl, _, _, hcell⟩ := hO.resolve_left (by omega)
              have cD : ∀ i, i < D.length → wr.cell? ⟨g, i, none⟩ = some (.int .u8 (D.getD i 0)) := fun i hi => by
                refine cell_later hR.bel ?_
                rw [hcell i hi]
                simp [cls, hi]
              have cj := cD j hlj
              have hcv := run_convert_bytes_arg (P := Try.prog) wr 25 5 Try.underlying25 Try.underlying5 g st (j - st) (co - st) S.cur (by omega) (fun i hi => by rw [cD (st + i) (by omega), hR.cur i (by omega)]) 9 Try.underlying9
              by_cases h44 : D.getD j 0 = 44
              · obtain ⟨fv', w1, hr, ho, hp, hs, hb⟩ := hR.field zt
                have hR2 := hR.comma hlj h44 ho hp hs hb
                rw [h44] at cj
                clear ho hp hs hb hR cD hcell h44
                go_wp2_with (first | (at_builtin; refine wpList_of_run (by rfl) (.tmp 112) (.tmp 118) 22 22 (by rfl) _ (.slice (some ⟨wr.heap.size, 0, none⟩) 1 1) fv' w1 (by rfl) (by rfl) hr ?_))
                go_roundw
                case rel => exact ⟨j + 1, j + 1, _, by go_num, by go_num, by go_num, hR2⟩
                case measure => simp [intOf]; omega
              · by_cases h10 : D.getD j 0 = 10
                · obtain ⟨fv', w1, hr, ho, hp, hs, hb⟩ := hR.field zt
                  obtain ⟨pv', w2, hr2, hR2⟩ := hR.newline hlj h10 zt ho hp hs hb
                  rw [h10] at cj
                  clear ho hp hs hb hR cD hcell h44 h10
                  go_wp2_with (first
                    | (at_builtin; refine wpList_of_run (by rfl) (.tmp 126) (.tmp 132) 22 22 (by rfl) _ (.slice (some ⟨wr.heap.size, 0, none⟩) 1 1) fv' w1 (by rfl) (by rfl) hr ?_)
                    | (at_builtin; refine wpList_of_run (by rfl) (.tmp 136) (.tmp 138) 29 29 (by rfl) _ (.slice (some ⟨w1.heap.size, 0, none⟩) 1 1) pv' w2 (by rfl) (by rfl) hr2 ?_))
                  go_roundw
                  case rel => exact ⟨j + 1, j + 1, _, by go_num, by go_num, rfl, hR2⟩
                  case measure => simp [intOf]; omega
                · have hR2 := hR.plain hlj h44 h10
                  have i1 : (D.getD j 0 == 44) = false := beq_eq_false_iff_ne.2 h44
                  have i2 : (D.getD j 0 == 10) = false := beq_eq_false_iff_ne.2 h10
                  generalize D.getD j 0 = x at *
                  clear hR cD hcell h44 h10 hcv
                  go_wp2
                  go_roundw
                  case rel => exact ⟨j + 1, st, ⟨S.fs, S.pl, S.cur ++ [x], S.cnt⟩, by go_num, rfl, rfl, hR2⟩
                  case measure => simp [intOf]; omega
            · obtain rfl : j = D.length := by omega
              have hS : S = ⟨flds fu fp fa t, List.replicate t 3, [], 0⟩ := by rw [← hR.read]; exact HD.out
              have hcnt : S.cnt = 0 := by rw [hS]
              have hst : st = D.length := by have := hR.len; rw [hS] at this; exact this
              have oF := hR.ownF
              have oP := hR.ownP
              have b7 := hR.bel
              rw [hS, show (sfs (flds fu fp fa t)).length = 3 * t by rw [sfs_length, flds_length]] at oF
              rw [hS, show (ips (List.replicate t 3)).length = t by rw [ips_length, List.length_replicate]] at oP
              subst hst
              clear hS hR hbd hln HD
              obtain ⟨af, cf, rfl, hcf, hF⟩ := own_shape oF
              obtain ⟨ap, cpl, rfl, hcpl, hP⟩ := own_shape oP
              clear oF oP
              rename World => w7
              have hB7 := thn hB b7
              go_wp2
              go_loopw [17] (fun i wr => ∃ k : Nat, k ≤ t ∧ i = .int .i64 k ∧ Below w7.heap.size w7 wr) (fun i _ => t - (intOf i).toNat)
              case atStart => exact ⟨0, by omega, rfl, Below.refl _ _⟩
              case round =>
                obtain ⟨k, hk, rfl, hb⟩ := hrel
                by_cases hlk : k < t
                · obtain ⟨bu, ou, rfl, hcu⟩ := lu.resolve_left (by omega)
                  obtain ⟨bp, op, rfl, hcp⟩ := lp.resolve_left (by omega)
                  obtain ⟨ba, oa, rfl, hca⟩ := la.resolve_left (by omega)
                  obtain ⟨gf, rfl, _, _, hFc⟩ := hF.resolve_left (by omega)
                  obtain ⟨gp, rfl, _, _, hPc⟩ := hP.resolve_left (by omega)
                  have hb0 := thn hB7 hb
                  have e1 := cell_later hb0 (hcu k hlk)
                  have e2 := cell_later hb0 (hcp k hlk)
                  have e3 := cell_later hb0 (hca k hlk)
                  have p1 : wr.cell? ⟨gp, k, none⟩ = some (.int .i64 3) := cell_later hb (by rw [hPc k hlk]; simp [ips, hlk])
                  obtain ⟨q1, q2, q3⟩ := flds_get fu fp fa t k hlk
                  have hfl := flds_length fu fp fa t
                  have f1 : wr.cell? ⟨gf, 3 * k, none⟩ = some (.string (fu k)) := cell_later hb (by rw [hFc (3 * k) (by omega)]; exact sfs_at hfl (by omega) q1)
                  have f2 : wr.cell? ⟨gf, 3 * k + 1, none⟩ = some (.string (fp k)) := cell_later hb (by rw [hFc (3 * k + 1) (by omega)]; exact sfs_at hfl (by omega) q2)
                  have f3 : wr.cell? ⟨gf, 3 * k + 2, none⟩ = some (.string (fa k)) := cell_later hb (by rw [hFc (3 * k + 2) (by omega)]; exact sfs_at hfl (by omega) q3)
                  clear hcu hcp hca hFc hPc q1 q2 q3 hfl
                  have i1 : (0 : Int) ≤ (k : Int) := by omega
                  have i2 : (k : Int) < (t : Int) := by omega
                  go_wp2
                  go_region
                  all_goals go_wp2
                  all_goals go_roundw
                  case rel => exact ⟨k + 1, by omega, by go_num, hb.drew⟩
                  case measure => simp [intOf]; omega
                · go_wp2
                  go_ret
                  exact ⟨rfl, thn hB7 hb⟩

end Go.Proofs.Qxb6621651a

/- The contract of AppendLine. -/
import Derived.Test.Qxb6621651aRows
import Derived.WalkKit
import Derived.ProofKit
import Derived.OpenShut
import Derived.ShutString
import Derived.WalkLawsBesides
import Derived.WalkSpells
import Derived.Deep.OwnRows
import Derived.Lib.AppendStr
import Derived.Maps.AppendAt
import Derived.WalkSmall
import Derived.Sort.AtCall
namespace Go.Proofs.Qxb6621651a
open Go.ChangeShapes Go.WideShapes Go.ChangeAt Go.RowKit

/-! ### bytes -/
/-- A string's bytes as numbers. -/
def bts (s : ByteArray) : List Int := s.data.toList.map fun b => (b.toNat : Int)
/-- Numbers as cells. -/
def cls (l : List Int) : List Value := l.map (Value.int .u8)
theorem bts_length (s : ByteArray) : (bts s).length = s.size := by
  unfold bts; rw [List.length_map, Array.length_toList]; rfl
theorem cls_length (l : List Int) : (cls l).length = l.length := List.length_map _
theorem cls_append (a b : List Int) : cls (a ++ b) = cls a ++ cls b := List.map_append
theorem strCells_bts (s : ByteArray) : Lib.strCells s = cls (bts s) := by
  unfold Lib.strCells cls bts; rw [List.map_map]; rfl
/-- The line of a trade. -/
def line (u p a : ByteArray) : List Int := bts u ++ [44] ++ bts p ++ [44] ++ bts a ++ [10]
theorem line_length (u p a : ByteArray) : (line u p a).length = u.size + p.size + a.size + 3 := by
  unfold line; simp only [List.length_append, bts_length, List.length_cons, List.length_nil]; omega

theorem Try.info5 : (Try.prog.info? 5).map (fun i => (i.zero, i.size, i.bytes)) = some (some (.int .u8 0), 1, 1) := by kernel_rfl

/-! ### appending to a slice of bytes of the call's own -/
/-- From w, v to w', v': v' owns the n' cells zs; of w's blocks that of v alone may have turned; v' lies where v lay, or in a new block. -/
structure Stp (base : Nat) (w : World) (v : Value) (w' : World) (v' : Value) (zs : List Int) : Prop where
  own : w'.ownsRow base 5 1 v' zs.length (cls zs)
  grow : w.grownBy w' v.ownBlock
  lies : v'.ownBlock = v.ownBlock ∨ ∃ k, v'.ownBlock = some k ∧ w.heap.size ≤ k

theorem Stp.trans {base : Nat} {w w1 w2 : World} {v v1 v2 : Value} {xs ys : List Int} (h : Stp base w v w1 v1 xs) (k : Stp base w1 v1 w2 v2 ys) : Stp base w v w2 v2 ys := by
  have hs := h.grow.size
  refine ⟨k.own, ⟨k.grow.os.trans h.grow.os, k.grow.tape.trans h.grow.tape, k.grow.output.trans h.grow.output, Nat.le_trans hs k.grow.size, fun j hj hne => ?_⟩, ?_⟩
  · refine (k.grow.block j (by omega) ?_).trans (h.grow.block j hj hne)
    rcases h.lies with e | ⟨q, e, hq⟩
    · rw [e]; exact hne
    · rw [e]; intro e2; cases e2; omega
  · rcases k.lies with e | ⟨q, e, hq⟩
    · rw [e]; exact h.lies
    · exact .inr ⟨q, e, by omega⟩
theorem Stp.allocL {base : Nat} {w w1 : World} {v v1 : Value} {xs : List Int} {o : Obj} (h : Stp base (w.alloc o) v w1 v1 xs) : Stp base w v w1 v1 xs := by
  have hs := h.grow.size
  simp at hs
  refine ⟨h.own, ⟨h.grow.os, h.grow.tape, h.grow.output, by omega, fun j hj hne => ?_⟩, ?_⟩
  · exact (h.grow.block j (by simp; omega) hne).trans (Below.heap_alloc w o j hj)
  · rcases h.lies with e | ⟨q, e, hq⟩
    · exact .inl e
    · simp at hq; exact .inr ⟨q, e, by omega⟩

/-- 'append(b, s...)', s a string. -/
theorem app_str (base : Nat) (w : World) (v : Value) (xs : List Int) (s : ByteArray) (hown : w.ownsRow base 5 1 v xs.length (cls xs)) (hb : xs.length + s.size ≤ 140737488355328) (hbase : base ≤ w.heap.size) :
    ∃ v' w', (Builtin.append_ #[25, 9] 25 #[v, .string s]).run Try.prog w = .ok v' w' ∧ Stp base w v w' v' (xs ++ bts s) := by
  obtain ⟨i, hi, hz0, hz1, hz2⟩ := info_parts Try.info5
  obtain ⟨v', w', hr, h2, h3, h4⟩ := Lib.run_append_own_string (P := Try.prog) w base 25 9 25 5 i Try.underlying25 Try.underlying9 hi hz0 hz1 hz2 v xs.length (cls xs) hown s (by unfold maxLen; omega) hb hbase
  refine ⟨v', w', hr, ?_, h3, ?_⟩
  · rw [List.length_append, bts_length, cls_append, ← strCells_bts]; exact h2
  · rcases hown.2 with ⟨rfl, hn⟩ | ⟨g, cap, cur, rfl, hbg, hg, hnc, hcm, hcs, htake⟩
    · by_cases h0 : s.size = 0
      · left; rw [h4.2 ⟨rfl, h0⟩]
      · right
        have := run_append_nil_string (P := Try.prog) w 25 9 25 5 i _ Try.underlying25 Try.underlying9 hi hz0 s (by omega) (by omega) (by rw [hz2]; omega)
        rw [this] at hr
        simp only [Result.ok.injEq] at hr
        exact ⟨w.heap.size, by rw [← hr.1]; rfl, Nat.le_refl _⟩
    · by_cases hroom : xs.length + s.size ≤ cap
      · left
        have := Lib.run_append_room_string (P := Try.prog) w 25 9 25 5 i Try.underlying25 Try.underlying9 hi hz1 g xs.length cap cur hg s hroom (by rw [hcs]; omega)
        rw [this] at hr
        simp only [Result.ok.injEq] at hr
        rw [← hr.1]; rfl
      · right
        have := Lib.run_append_grow_string (P := Try.prog) w 25 9 25 5 i _ Try.underlying25 Try.underlying9 hi hz0 ⟨g, 0, none⟩ xs.length cap (cls xs) (by rw [hz1]; exact hown.1) (hown.cells (g := g) rfl) s (by omega) (by omega) (by rw [hz2]; exact growslice_fits (by omega) (by omega))
        rw [this] at hr
        simp only [Result.ok.injEq] at hr
        exact ⟨w.heap.size, by rw [← hr.1]; rfl, Nat.le_refl _⟩

/-- 'append(b, c)', c a byte, which lies in a new block of its own. -/
theorem app_byte (base : Nat) (w : World) (v : Value) (xs : List Int) (c : Int) (hown : w.ownsRow base 5 1 v xs.length (cls xs)) (hb : xs.length + 1 ≤ 140737488355328) (hbase : base ≤ w.heap.size) :
    ∃ v' w', (Builtin.append_ #[25, 25] 25 #[v, .slice (some ⟨w.heap.size, 0, none⟩) 1 1]).run Try.prog (w.alloc (.cells #[.int .u8 c] 5)) = .ok v' w' ∧ Stp base w v w' v' (xs ++ [c]) := by
  obtain ⟨i, hi, hz0, hz1, hz2⟩ := info_parts Try.info5
  obtain ⟨v', w', hr, h2, h3, _, h5⟩ := run_append_own_at (P := Try.prog) (w.alloc (.cells #[.int .u8 c] 5)) base 25 25 5 i (.int .u8 0) 1 1 Try.underlying25 hi hz0 hz1 hz2 rfl (by omega) v xs.length (cls xs) (hown.alloc _)
    ⟨w.heap.size, 0, none⟩ 1 1 [.int .u8 c] rfl
    (by intro j u hj
        match j, hj with
        | 0, hj => simp at hj; subst hj; simp [Addr.add])
    (by intro u hu; simp at hu; subst hu; rfl) (by unfold maxLen; omega) (by omega) (by simp; omega)
  refine ⟨v', w', hr, (Stp.allocL (o := .cells #[.int .u8 c] 5) ⟨?_, h3, ?_⟩)⟩
  · rw [List.length_append, cls_append]; exact h2
  · rcases h5 with e | e
    · exact .inl e
    · exact .inr ⟨_, e, Nat.le_refl _⟩

/-- A cell that v does not own stays. -/
theorem Stp.cell {base : Nat} {w w1 : World} {v v1 : Value} {xs : List Int} (h : Stp base w v w1 v1 xs) {b o : Nat} {x : Value} (hc : w.cell? ⟨b, o, none⟩ = some x) (hne : some b ≠ v.ownBlock) : w1.cell? ⟨b, o, none⟩ = some x :=
  h.grow.cell hc hne

/-- An append whose run is known, at the operation. -/
theorem wpList_of_run {w : World} {ops : Array Oper} {rest : List Oper} {o : Oper} {a : Act} {Q : Exit → Act → World → Prop} (hgd : o.guard = none) (s x : Operand) (t u : TypeId)
    (ho : o.op = .call { callee := .builtin .append, args := #[s, x], argTypes := #[t, u] }) (vs vx v' : Value) (w' : World) (hs : a.eval s = vs) (hx : a.eval x = vx)
    (hr : (Builtin.append_ #[t, u] o.type #[vs, vx]).run Try.prog w = .ok v' w') (h : wpList Try.prog ops Q rest (a.put o.dst v') w') : wpList Try.prog ops Q (o :: rest) a w := by
  refine wpList_plain hgd fun K hK => ?_
  unfold Oper.wp execOp
  simp only [ho, resolve, invoke, builtin, Sem.run_bind, Sem.run_pure, Result.andThen_ok, List.map_toArray, List.map_cons, List.map_nil, hs, hx, hr]
  exact hK _ _ h

set_option maxRecDepth 100000 in
theorem line_any (base : Nat) (w : World) (v : Value) (xs : List Int) (u p a : ByteArray) (hown : w.ownsRow base 5 1 v xs.length (cls xs)) (hb : xs.length + u.size + p.size + a.size + 3 ≤ 140737488355328) (hbase : base ≤ w.heap.size) :
    Calls Try.prog 8 #[.agg #[.string u, .string p, .string a], v] w fun e w' => ∃ v', e = .returned v' ∧ Stp base w v w' v' (xs ++ line u p a) := by
  have hv : ∀ k, v.ownBlock = some k → k < w.heap.size := fun k hk => (hown.lt k hk).2
  obtain ⟨v1, w1, r1, s1⟩ := app_str base (w.alloc (.cells #[.string u, .string p, .string a] 27)) v xs u (hown.alloc _) (by omega) (by simp; omega)
  have z1 := s1.grow.size
  simp at z1
  obtain ⟨v2, w2, r2, s2⟩ := app_byte base w1 v1 (xs ++ bts u) 44 s1.own (by simp [bts_length]; omega) (by omega)
  have z2 := s2.grow.size
  obtain ⟨v3, w3, r3, s3⟩ := app_str base w2 v2 _ p s2.own (by simp [bts_length]; omega) (by omega)
  have z3 := s3.grow.size
  obtain ⟨v4, w4, r4, s4⟩ := app_byte base w3 v3 _ 44 s3.own (by simp [bts_length]; omega) (by omega)
  have z4 := s4.grow.size
  obtain ⟨v5, w5, r5, s5⟩ := app_str base w4 v4 _ a s4.own (by simp [bts_length]; omega) (by omega)
  have z5 := s5.grow.size
  obtain ⟨v6, w6, r6, s6⟩ := app_byte base w5 v5 _ 10 s5.own (by simp [bts_length]; omega) (by omega)
  have t2 := s1.trans s2
  have t4 := (t2.trans s3).trans s4
  have t6 := (t4.trans s5).trans s6
  have hne : some w.heap.size ≠ v.ownBlock := fun e => by have := hv _ e.symm; omega
  have c1 : w2.cell? ⟨w.heap.size, 1, none⟩ = some (.string p) := t2.cell (by simp) hne
  have c2 : w4.cell? ⟨w.heap.size, 2, none⟩ = some (.string a) := t4.cell (by simp) hne
  have T : Stp base w v w6 v6 (xs ++ line u p a) := by
    have := t6.allocL
    simpa only [line, List.append_assoc] using this
  clear t2 t4 t6 s1 s2 s3 s4 s5 s6 hown hv hne z1 z2 z3 z4 z5
  go_enter Try.func8, Try.ntmps8
  go_wp2_with (first
    | (at_builtin; refine wpList_of_run (by rfl) (.tmp 5) (.tmp 7) 25 9 (by rfl) v (.string u) v1 w1 (by rfl) (by rfl) r1 ?_)
    | (at_builtin; refine wpList_of_run (by rfl) (.tmp 9) (.tmp 10) 25 25 (by rfl) v1 (.slice (some ⟨w1.heap.size, 0, none⟩) 1 1) v2 w2 (by rfl) (by rfl) r2 ?_)
    | (at_builtin; refine wpList_of_run (by rfl) (.tmp 12) (.tmp 14) 25 9 (by rfl) v2 (.string p) v3 w3 (by rfl) (by rfl) r3 ?_)
    | (at_builtin; refine wpList_of_run (by rfl) (.tmp 16) (.tmp 17) 25 25 (by rfl) v3 (.slice (some ⟨w3.heap.size, 0, none⟩) 1 1) v4 w4 (by rfl) (by rfl) r4 ?_)
    | (at_builtin; refine wpList_of_run (by rfl) (.tmp 19) (.tmp 21) 25 9 (by rfl) v4 (.string a) v5 w5 (by rfl) (by rfl) r5 ?_)
    | (at_builtin; refine wpList_of_run (by rfl) (.tmp 23) (.tmp 24) 25 25 (by rfl) v5 (.slice (some ⟨w5.heap.size, 0, none⟩) 1 1) v6 w6 (by rfl) (by rfl) r6 ?_))
  go_ret
  exact ⟨v6, rfl, T⟩

end Go.Proofs.Qxb6621651a

/- Behind the two calls of AppendLine; counting bytes. -/
import Derived.Test.Qxb6621651aClone
namespace Go.Proofs.Qxb6621651a
open Go.ChangeShapes Go.WideShapes Go.ChangeAt Go.RowKit

theorem thn {w w1 w2 : World} (h : Below w.heap.size w w1) (k : Below w1.heap.size w1 w2) : Below w.heap.size w w2 := h.trans (k.mono h.size)

theorem own_later {w w' : World} {B : Nat} {v : Value} {n : Nat} {xs : List Value} (hb : Below w.heap.size w w') (h : w.ownsRow B 5 1 v n xs) : w'.ownsRow B 5 1 v n xs :=
  h.kept (row := none) ⟨hb.os, hb.tape, hb.output, hb.size, fun k hk _ => hb.block k hk⟩ (by cases hv : v.ownBlock <;> simp)

/-- What an append leaves of old memory. -/
theorem Stp.below {B base : Nat} {w w1 w2 : World} {v v1 : Value} {xs : List Int} (hb : Below B w w1) (h : Stp base w1 v w2 v1 xs) (hB : B ≤ w1.heap.size) (hv : ∀ k, v.ownBlock = some k → B ≤ k) : Below B w w2 :=
  hb.grown h.grow hB hv
/-- What the append does not own still lies there. -/
theorem Stp.lies_other {base : Nat} {w w1 : World} {v v1 : Value} {xs : List Int} (h : Stp base w v w1 v1 xs) {a : Option Addr} {n : Nat} {z : Nat → Int} (hl : Lies w a n z)
    (hne : ∀ b off s, a = some ⟨b, off, s⟩ → some b ≠ v.ownBlock) : Lies w1 a n z := by
  rcases hl with hl | ⟨b, off, ha, hc⟩
  · exact .inl hl
  · exact .inr ⟨b, off, ha, fun i hi => h.cell (hc i hi) (hne b off none ha)⟩

theorem get_left (n : Nat) (z : Nat → Int) (l : List Int) (i : Nat) (h : i < n) : (bl n z ++ l).getD i 0 = z i := by
  simp [bl, h, List.getElem?_append_left]
theorem get_right (n : Nat) (z : Nat → Int) (l : List Int) (i : Nat) : (bl n z ++ l).getD (n + i) 0 = l.getD i 0 := by
  rw [List.getD_eq_getElem?_getD, List.getElem?_append_right (by rw [bl_length]; omega), bl_length, Nat.add_sub_cancel_left, List.getD_eq_getElem?_getD]

theorem line_last (u p a : ByteArray) : (line u p a).getD (u.size + p.size + a.size + 2) 0 = 10 := by
  have e : u.size + p.size + a.size + 2 = (bts u ++ [44] ++ bts p ++ [44] ++ bts a).length := by simp only [List.length_append, bts_length, List.length_cons, List.length_nil]; omega
  rw [e, line, List.getD_eq_getElem?_getD, List.getElem?_append_right (Nat.le_refl _), Nat.sub_self]
  rfl

/-! ### counting bytes -/
theorem zero31 : ∃ Z : Array Value, (∀ w, (zeroValue 31).run Try.prog w = .ok (.agg Z) w) ∧ Z.size = 256 ∧ ∀ i, i < 256 → Z[i]? = some (.int .i64 0) :=
  ⟨Array.replicate 256 (.int .i64 0), fun _ => by kernel_rfl, by simp, fun i hi => by simp [hi]⟩
/-- How often the byte t stands in l. -/
def cn (l : List Int) (t : Nat) : Int := (l.count (t : Int) : Nat)
theorem cn_bd (l : List Int) (t : Nat) : 0 ≤ cn l t ∧ cn l t ≤ l.length := by
  unfold cn; have := List.count_le_length (a := (t : Int)) (l := l); omega
theorem cn_snoc (l : List Int) (b t : Nat) : cn (l ++ [(b : Int)]) t = if t = b then cn l t + 1 else cn l t := by
  unfold cn
  rw [List.count_append, List.count_singleton]
  by_cases h : t = b
  · subst h; simp
  · rw [if_neg h, if_neg (by simp; omega)]; simp
theorem cn_step (w : World) (g : Nat) (l : List Int) (b : Nat) (h : w.rowIs g 31 256 (fun t => .int .i64 (cn l t))) :
    (w.setCell ⟨g, b, none⟩ (.int .i64 (cn l b + 1))).rowIs g 31 256 (fun t => .int .i64 (cn (l ++ [(b : Int)]) t)) := by
  refine (h.set b _).congr fun t _ => ?_
  rw [cn_snoc]
  by_cases h1 : t = b
  · subst h1; rw [if_pos rfl, if_pos rfl]
  · rw [if_neg h1, if_neg h1]
theorem cn_two (w : World) (g : Nat) (l : List Int) (b : Nat) (h : w.rowIs g 31 256 (fun t => .int .i64 (cn l t))) :
    (w.setCell ⟨g, b, none⟩ (.int .i64 (cn l b + 2))).rowIs g 31 256 (fun t => .int .i64 (cn (l ++ [(b : Int)] ++ [(b : Int)]) t)) := by
  refine (h.set b _).congr fun t _ => ?_
  rw [cn_snoc, cn_snoc]
  by_cases h1 : t = b
  · subst h1; rw [if_pos rfl, if_pos rfl, if_pos rfl, Int.add_assoc]; rfl
  · rw [if_neg h1, if_neg h1, if_neg h1]
/-- The bytes of the three fields, one behind the other. -/
def sq (u p a : ByteArray) : List Int := bts u ++ (bts p ++ bts a)
theorem sq_length (u p a : ByteArray) : (sq u p a).length = u.size + p.size + a.size := by
  unfold sq; simp only [List.length_append, bts_length]; omega
theorem cn_line (u p a : ByteArray) (t : Nat) : cn (sq u p a ++ [((44 : Nat) : Int)] ++ [((44 : Nat) : Int)] ++ [((10 : Nat) : Int)]) t = cn (line u p a) t := by
  unfold cn line sq
  simp only [List.count_append]
  congr 1
  have e1 : List.count (t : Int) [((44 : Nat) : Int)] = List.count (t : Int) [44] := rfl
  have e2 : List.count (t : Int) [((10 : Nat) : Int)] = List.count (t : Int) [10] := rfl
  rw [e1, e2]
  omega
theorem bts_byte (u : ByteArray) : ∀ v ∈ bts u, 0 ≤ v ∧ v < 256 := by
  intro v hv
  simp only [bts, List.mem_map] at hv
  obtain ⟨b, _, rfl⟩ := hv
  have := UInt8.toNat_lt b
  omega
theorem line_byte (u p a : ByteArray) (t : Nat) (h : t < u.size + p.size + a.size + 3) : ∃ x : Nat, (line u p a).getD t 0 = x ∧ x < 256 ∧ (line u p a).take (t + 1) = (line u p a).take t ++ [(x : Int)] := by
  have hl : t < (line u p a).length := by rw [line_length]; exact h
  have hm : (line u p a)[t] ∈ line u p a := List.getElem_mem hl
  have hb : 0 ≤ (line u p a)[t] ∧ (line u p a)[t] < 256 := by
    have : ∀ v ∈ line u p a, 0 ≤ v ∧ v < 256 := by
      intro v hv
      simp only [line, List.mem_append, List.mem_singleton] at hv
      rcases hv with ((((hv | rfl) | hv) | rfl) | hv) | rfl
      · exact bts_byte u v hv
      · omega
      · exact bts_byte p v hv
      · omega
      · exact bts_byte a v hv
      · omega
    exact this _ hm
  have e : (line u p a).getD t 0 = (line u p a)[t] := by simp [hl]
  refine ⟨(line u p a)[t].toNat, by rw [e]; omega, by omega, ?_⟩
  rw [List.take_succ_eq_append_getElem hl]
  congr 2
  omega
theorem bts_get (u : ByteArray) (k : Nat) (h : k < u.size) : (bts u)[k]'(by rw [bts_length]; exact h) = ((u[k].toNat : Nat) : Int) := by
  simp [bts]
  rfl
theorem sq_take_u (u p a : ByteArray) (k : Nat) (h : k < u.size) : (sq u p a).take (k + 1) = (sq u p a).take k ++ [((u[k].toNat : Nat) : Int)] := by
  rw [List.take_succ_eq_append_getElem (by rw [sq_length]; omega)]
  congr 2
  unfold sq
  rw [List.getElem_append_left (by rw [bts_length]; exact h)]
  exact bts_get u k h
theorem sq_take_p (u p a : ByteArray) (k : Nat) (h : k < p.size) : (sq u p a).take (u.size + (k + 1)) = (sq u p a).take (u.size + k) ++ [((p[k].toNat : Nat) : Int)] := by
  rw [← Nat.add_assoc, List.take_succ_eq_append_getElem (by rw [sq_length]; omega)]
  congr 2
  unfold sq
  rw [List.getElem_append_right (by rw [bts_length]; omega), List.getElem_append_left (by rw [bts_length, bts_length]; omega)]
  have e : u.size + k - (bts u).length = k := by rw [bts_length]; omega
  simp only [e]
  exact bts_get p k h
theorem sq_take_a (u p a : ByteArray) (k : Nat) (h : k < a.size) : (sq u p a).take (u.size + p.size + (k + 1)) = (sq u p a).take (u.size + p.size + k) ++ [((a[k].toNat : Nat) : Int)] := by
  rw [← Nat.add_assoc, List.take_succ_eq_append_getElem (by rw [sq_length]; omega)]
  congr 2
  unfold sq
  rw [List.getElem_append_right (by rw [bts_length]; omega), List.getElem_append_right (by rw [bts_length, bts_length]; omega)]
  have e : u.size + p.size + k - (bts u).length - (bts p).length = k := by rw [bts_length, bts_length]; omega
  simp only [e]
  exact bts_get a k h
theorem sq_len (u p a : ByteArray) (j : Nat) (h : u.size + p.size + a.size ≤ 1048576) : ((sq u p a).take j).length ≤ 1048576 := by
  rw [List.length_take, sq_length]; omega

/-- What stands behind the two calls of AppendLine. -/
theorem after {w w1 w2 w4 w5 : World} {ab ak : Option Addr} {n cb ck : Nat} {z : Nat → Int} {u p a : ByteArray} {vo vt : Value}
    (hB1 : Below w.heap.size w w1) (hB2 : Below w1.heap.size w1 w2) (hown : w1.ownsRow w.heap.size 5 1 (.slice ab n cb) (bl n z).length (cls (bl n z)))
    (hownk : w2.ownsRow w1.heap.size 5 1 (.slice ak n ck) (bl n z).length (cls (bl n z))) (lk : Lies w2 ak n z)
    (So : Stp w.heap.size (w2.alloc (.cells #[.string u, .string p, .string a] 27)) (.slice ab n cb) w4 vo (bl n z ++ line u p a))
    (St : Stp w4.heap.size w4 (.slice none 0 0) w5 vt ([] ++ line u p a)) :
    ∃ go co gt ct, vo = .slice (some ⟨go, 0, none⟩) (n + (u.size + p.size + a.size + 3)) co ∧ vt = .slice (some ⟨gt, 0, none⟩) (u.size + p.size + a.size + 3) ct ∧
      (∀ i, i < n → w5.cell? ⟨go, i, none⟩ = some (.int .u8 (z i))) ∧ (∀ i, i < u.size + p.size + a.size + 3 → w5.cell? ⟨go, n + i, none⟩ = some (.int .u8 ((line u p a).getD i 0))) ∧
      (∀ i, i < u.size + p.size + a.size + 3 → w5.cell? ⟨gt, i, none⟩ = some (.int .u8 ((line u p a).getD i 0))) ∧ Lies w5 ak n z ∧ Below w.heap.size w w5 := by
  have s1 := hB1.size
  have s2 := hB2.size
  have so := So.grow.size
  simp at so
  have hlo : (bl n z ++ line u p a).length = n + (u.size + p.size + a.size + 3) := by rw [List.length_append, bl_length, line_length]
  have o4 := So.own
  rw [hlo] at o4
  obtain ⟨go, co, rfl, _, _, hgo, cO⟩ := own_row o4 (by omega)
  have o5 := St.own
  rw [List.nil_append, line_length] at o5
  obtain ⟨gt, ct, rfl, _, _, _, cT⟩ := own_row o5 (by omega)
  have cO5 : ∀ i, i < n + (u.size + p.size + a.size + 3) → w5.cell? ⟨go, i, none⟩ = some (.int .u8 ((bl n z ++ line u p a).getD i 0)) := fun i hi => St.cell (cO i hi) (by simp [Value.ownBlock])
  refine ⟨go, co, gt, ct, rfl, rfl, fun i hi => ?_, fun i hi => ?_, cT, ?_, ?_⟩
  · rw [cO5 i (by omega), get_left _ _ _ _ hi]
  · rw [cO5 (n + i) (by omega), get_right]
  · have hlk : Lies (w2.alloc (.cells #[.string u, .string p, .string a] 27)) ak n z := lk.later ((Below.refl _ _).alloc (Nat.le_refl _) _)
    refine St.lies_other (So.lies_other hlk fun b off s e => ?_) fun b off s e => by simp [Value.ownBlock]
    subst e
    intro e2
    have h1 := hown.lt _ e2.symm
    have h2 := hownk.lt b rfl
    omega
  · have hb3 : Below w.heap.size w (w2.alloc (.cells #[.string u, .string p, .string a] 27)) := (thn hB1 hB2).alloc (by omega) _
    exact (So.below hb3 (by simp; omega) fun k hk => (hown.lt k hk).1).grown St.grow (by omega) (fun k hk => by simp [Value.ownBlock] at hk)

end Go.Proofs.Qxb6621651a

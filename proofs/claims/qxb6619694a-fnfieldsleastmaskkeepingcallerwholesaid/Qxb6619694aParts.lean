/- Contracts of the callees of 'FnFieldsLeastMaskKeepingCallerWhole': zzBytes, ZZFields, only, ZZOnly. -/
import Derived.Test.Qxb6619694aRows
import Derived.WalkKit
import Derived.ProofKit
import Derived.OpenShut
import Derived.ShutString
import Derived.WalkLawsBesides
import Derived.WalkSpells
namespace Go.Proofs.Qxb6619694a
open Go.ChangeShapes Go.WideShapes Go.ChangeAt Go.RowKit

/-- The world has at most new blocks; no mark of an old cell has turned. -/
structure Nw (w w' : World) : Prop where
  bel : Below w.heap.size w w'
  frz : ∀ a, w'.frozen? a = w.frozen? a

theorem Nw.refl (w : World) : Nw w w := ⟨Below.refl _ _, fun _ => rfl⟩
theorem Nw.drew {w w' : World} (h : Nw w w') : Nw w w'.drew := ⟨h.bel.drew, h.frz⟩
theorem Nw.alloc {w w' : World} (h : Nw w w') (c : Array Value) (t : TypeId) : Nw w (w'.alloc (.cells c t)) :=
  ⟨h.bel.alloc h.bel.size _, fun a => (frozen?_alloc_cells _ _ _ a).trans (h.frz a)⟩
theorem Nw.trans {a b c : World} (h : Nw a b) (k : Nw b c) : Nw a c :=
  ⟨h.bel.trans (k.bel.mono h.bel.size), fun x => (k.frz x).trans (h.frz x)⟩
theorem Nw.setCell {w w' : World} (h : Nw w w') {p : Addr} (hp : w.heap.size ≤ p.block) (v : Value) : Nw w (w'.setCell p v) :=
  ⟨h.bel.setCell hp v, fun x => (World.frozen?_setCell _ _ _ _).trans (h.frz x)⟩
theorem Nw.grown {w w' : World} (h : Nw w w') : Grown w w' := ⟨h.bel.frame _, h.frz, h.bel.size⟩

theorem bcell {W w1 : World} (hb : Below W.heap.size W w1) : (∀ b o, b < W.heap.size → w1.cell? ⟨b, o, none⟩ = W.cell? ⟨b, o, none⟩) ∧ (∀ b o, b < W.heap.size → w1.frozen? ⟨b, o, none⟩ = W.frozen? ⟨b, o, none⟩) :=
  ⟨fun b o h => hb.cell (p := ⟨b, o, none⟩) h, fun b o h => hb.frozen (p := ⟨b, o, none⟩) h⟩

theorem Nw.cells {w w' : World} {x y z : Value} (h : Nw (w.alloc (.cells #[x, y, z] 24)) w') :
    w'.cell? ⟨w.heap.size, 0, none⟩ = some x ∧ w'.cell? ⟨w.heap.size, 1, none⟩ = some y ∧ w'.cell? ⟨w.heap.size, 2, none⟩ = some z := by
  obtain ⟨hc, hf⟩ := bcell h.bel
  refine ⟨?_, ?_, ?_⟩ <;> (rw [hc _ _ (by simp)]; simp)

/-- The mask f lacks the bit k. -/
def zf (f k : Int) : Bool := (bits BinOp.and IntKind.u8 f k == 0)
/-- A field behind 'only': blanked or kept. -/
def ks (t : Bool) (s : ByteArray) : ByteArray := if t then { data := #[] } else s

theorem only_any (w : World) (a b c : ByteArray) (f : Int) :
    Calls Try.prog 8 #[.agg #[.string a, .string b, .string c], .int .u8 f] w fun e w' => e = .returned (.agg #[.string (ks (zf f 1) a), .string (ks (zf f 2) b), .string (ks (zf f 4) c)]) ∧ Nw w w' := by
  cases h1 : (bits BinOp.and IntKind.u8 f 1 == 0) <;> cases h2 : (bits BinOp.and IntKind.u8 f 2 == 0) <;> cases h4 : (bits BinOp.and IntKind.u8 f 4 == 0)
  all_goals
    simp only [zf, ks, h1, h2, h4, if_true, Bool.false_eq_true, if_false]
    go_enter Try.func8, Try.ntmps8
    go_wp2
    exact bodyPost_ret (v := .agg #[_, _, _]) (by simp [results, Try.results8, go_sem]) rfl ⟨rfl, by repeat (first | exact Nw.refl _ | apply Nw.drew | apply Nw.alloc)⟩

theorem zzonly_any (w : World) (a b c : ByteArray) (f : Int) :
    Calls Try.prog 6 #[.agg #[.string a, .string b, .string c], .int .u8 f] w fun e w' => e = .returned (.agg #[.string (ks (zf f 1) a), .string (ks (zf f 2) b), .string (ks (zf f 4) c)]) ∧ Nw w w' := by
  go_enter Try.func6, Try.ntmps6
  go_wp2_with (go_at_call 8; refine (only_any _ _ _ _ _).mono ?_; rintro e w' ⟨rfl, hg⟩; obtain ⟨hc, hf⟩ := bcell hg.bel)
  exact bodyPost_ret (v := .agg #[_, _, _]) (by simp [results, Try.results6, go_sem, hc]) rfl
    ⟨rfl, (((((((Nw.refl w).alloc _ _).alloc _ _).trans hg).setCell (by simp) _).setCell (by simp) _).setCell (by simp) _)⟩

/-- What 'fields' answers. -/
def fm (a b c : ByteArray) : Int := (if a.toList == [] then 0 else 1) + (if b.toList == [] then 0 else 2) + (if c.toList == [] then 0 else 4)

theorem zzfields_any (w : World) (a b c : ByteArray) :
    Calls Try.prog 5 #[.agg #[.string a, .string b, .string c]] w fun e w' => e = .returned (.int .u8 (fm a b c)) ∧ Nw w w' := by
  cases ha : (a.toList == []) <;> cases hb : (b.toList == []) <;> cases hc : (c.toList == [])
  all_goals
    go_enter Try.func5, Try.ntmps5
    go_wp2
    go_ret
    refine ⟨?_, by repeat (first | exact Nw.refl _ | apply Nw.drew | apply Nw.alloc)⟩
    unfold fm
    rw [ha, hb, hc]; rfl

theorem zz_yes (w : World) (a b c : ByteArray) (h : a.size + b.size + c.size ≤ 1048576) :
    Calls Try.prog 4 #[.string a, .string b, .string c] w fun e w' => e = .returned (.bool true) ∧ w = w' := by
  go_enter Try.func4, Try.ntmps4
  go_wp2
  go_ret
  exact ⟨rfl, rfl⟩

theorem zz_no (w : World) (a b c : ByteArray) (ha : a.size ≤ maxLen) (hb : b.size ≤ maxLen) (hc : c.size ≤ maxLen) (h : 1048576 < a.size + b.size + c.size) :
    Calls Try.prog 4 #[.string a, .string b, .string c] w fun e w' => e = .returned (.bool false) ∧ w = w' := by
  unfold maxLen at *
  go_enter Try.func4, Try.ntmps4
  go_wp2
  all_goals (go_ret; exact ⟨rfl, rfl⟩)

end Go.Proofs.Qxb6619694a

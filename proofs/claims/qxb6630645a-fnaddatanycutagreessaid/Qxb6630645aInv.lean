/-
  A report that is being filled: what holds behind k calls of Add.
-/
import Derived.Test.Qxb6630645aAdd
import Derived.Test.Qxb6630645aMatch
namespace Go.Proofs.Qxb6630645a
open Go.ChangeShapes Go.WideShapes Go.ChangeAt Go.RowKit
open Go.Deep

/-- Behind k calls of Add on a report that began in w0 with the entries es1, over the list es2. -/
def Inv (w0 wr : World) (RB : Nat) (es1 es2 : List Ent) (f p x t : Int) (k : Nat) : Prop :=
  ∃ (v : Value) (gs : List Ent), Rep wr RB v (wrap64 (f + ((k : Int) - cnt Ent.isErr es2 k - cnt Ent.isPass es2 k))) (wrap64 (p + cnt Ent.isPass es2 k)) (wrap64 (x + cnt Ent.isErr es2 k)) t ∧
    wr.ownsRow w0.heap.size 34 8 v gs.length (ECells gs) ∧ gs.length = es1.length + k ∧ Twin wr (es1 ++ es2) gs ∧ Below w0.heap.size w0 wr ∧ w0.heap.size ≤ RB

theorem own_keep {w w' : World} {B n : Nat} {v : Value} {xs : List Value} (h : w.ownsRow B 34 8 v n xs) (hb : Below w.heap.size w w') : w'.ownsRow B 34 8 v n xs := by
  obtain ⟨h1, h2⟩ := h
  refine ⟨h1, ?_⟩
  rcases h2 with h | ⟨g, cap, cur, hv, hB, hg, r⟩
  · exact .inl h
  · exact .inr ⟨g, cap, cur, hv, hB, (hb.block g (Array.getElem?_eq_some_iff.1 hg).1).trans hg, r⟩

theorem Inv.keep {w0 wr w' : World} {RB : Nat} {es1 es2 : List Ent} {f p x t : Int} {k : Nat} (h : Inv w0 wr RB es1 es2 f p x t k) (hb : Below wr.heap.size wr w') : Inv w0 w' RB es1 es2 f p x t k := by
  obtain ⟨v, gs, h1, h2, h3, h4, h5, h6⟩ := h
  exact ⟨v, gs, h1.keep hb, own_keep h2 hb, h3, h4.keep (Keep9.of_below hb), h5.trans (hb.mono h5.size), h6⟩

theorem wrap64_self {x : Int} (h : (Lit.int .i64 x).wf = true) : wrap64 x = x := by
  have := bounds_i64 h
  unfold wrap64; omega

theorem wrap64_add (a c d : Int) : wrap64 (wrap64 (a + c) + d) = wrap64 (a + (c + d)) := by unfold wrap64; omega

theorem Inv.step {w0 wr w1 w2 : World} {RB : Nat} {es1 es2 : List Ent} {f p x t : Int} {k : Nat} {v'' : Value} {gs : List Ent} {v' : Value} (hk : k < es2.length)
    (h3 : gs.length = es1.length + k) (h4 : Twin wr (es1 ++ es2) gs) (h5 : Below w0.heap.size w0 wr) (h6 : w0.heap.size ≤ RB)
    (x2 : v' = .slice none 0 0 ↔ (es2.getD k ent0).dv = .slice none 0 0) (x3 : Clone w1 v' (es2.getD k ent0).dl) (x4 : Below wr.heap.size wr w1)
    (y1 : Rep w2 RB v'' (stepF ({ es2.getD k ent0 with dv := v' } : Ent) (wrap64 (f + ((k : Int) - cnt Ent.isErr es2 k - cnt Ent.isPass es2 k)))) (stepP ({ es2.getD k ent0 with dv := v' } : Ent) (wrap64 (p + cnt Ent.isPass es2 k))) (stepX ({ es2.getD k ent0 with dv := v' } : Ent) (wrap64 (x + cnt Ent.isErr es2 k))) t)
    (y2 : w2.ownsRow w0.heap.size 34 8 v'' (gs.length + 1) (ECells gs ++ ({ es2.getD k ent0 with dv := v' } : Ent).cells)) (y3 : Below w0.heap.size w1 w2) (y4 : Keep9 w1 w2) :
    Inv w0 w2 RB es1 es2 f p x t (k + 1) := by
  have e1 := cnt_succ Ent.isErr es2 k hk
  have e2 := cnt_succ Ent.isPass es2 k hk
  have a1 : Ent.isErr { es2.getD k ent0 with dv := v' } = (es2.getD k ent0).isErr := rfl
  have a2 : Ent.isPass { es2.getD k ent0 with dv := v' } = (es2.getD k ent0).isPass := rfl
  refine ⟨v'', gs ++ [{ es2.getD k ent0 with dv := v' }], ?_, ?_, by simp [h3]; omega, ?_, (h5.trans (x4.mono h5.size)).trans y3, h6⟩
  · rw [stepF, stepP, stepX, a1, a2] at y1
    cases hE : (es2.getD k ent0).isErr
    · cases hP : (es2.getD k ent0).isPass
      · simp only [hE, hP, Bool.or_self, Bool.false_eq_true, if_false] at y1 e1 e2
        rw [e1, e2]
        rw [wrap64_add] at y1
        have q : f + (((k + 1 : Nat) : Int) - ((cnt Ent.isErr es2 k + 0 : Nat) : Int) - ((cnt Ent.isPass es2 k + 0 : Nat) : Int)) = f + ((k : Int) - cnt Ent.isErr es2 k - cnt Ent.isPass es2 k + 1) := by omega
        rw [q]; simpa using y1
      · simp only [hE, hP, Bool.or_true, Bool.false_eq_true, if_false, if_true] at y1 e1 e2
        rw [e1, e2]
        rw [wrap64_add] at y1
        have q : f + (((k + 1 : Nat) : Int) - ((cnt Ent.isErr es2 k + 0 : Nat) : Int) - ((cnt Ent.isPass es2 k + 1 : Nat) : Int)) = f + ((k : Int) - cnt Ent.isErr es2 k - cnt Ent.isPass es2 k) := by omega
        rw [q]; simpa using y1
    · have hP : (es2.getD k ent0).isPass = false := by unfold Ent.isPass; rw [hE]; rfl
      simp only [hE, hP, Bool.or_false, Bool.false_eq_true, if_false, if_true] at y1 e1 e2
      rw [e1, e2]
      rw [wrap64_add] at y1
      have q : f + (((k + 1 : Nat) : Int) - ((cnt Ent.isErr es2 k + 1 : Nat) : Int) - ((cnt Ent.isPass es2 k + 0 : Nat) : Int)) = f + ((k : Int) - cnt Ent.isErr es2 k - cnt Ent.isPass es2 k) := by omega
      rw [q]; simpa using y1
  · rw [ECells_snoc]; simpa using y2
  · refine Twin.snoc (h4.keep ((Keep9.of_below x4).trans y4)) ?_
    rw [h3, getD_right]
    exact ⟨rfl, x2, x3.keep y4⟩
end Go.Proofs.Qxb6630645a

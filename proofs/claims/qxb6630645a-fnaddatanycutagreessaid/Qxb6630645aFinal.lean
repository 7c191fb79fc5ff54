/-
  What the three reports hold when all have been filled.
-/
import Derived.Test.Qxb6630645aInv
import Derived.Test.Qxb6630645aCounts
namespace Go.Proofs.Qxb6630645a
open Go.ChangeShapes Go.WideShapes Go.ChangeAt Go.RowKit
open Go.Deep

theorem cnt_drop (p : Ent → Bool) (es : List Ent) (k j : Nat) : cnt p es (k + j) = cnt p es k + cnt p (es.drop k) j := by
  unfold cnt
  rw [List.take_add, List.filter_append, List.length_append]

theorem twin_cnt {w : World} {es gs : List Ent} (h : Twin w es gs) (hl : gs.length ≤ es.length) (p : Ent → Bool) (hp : ∀ (e : Ent) (v : Value), p { e with dv := v } = p e) : ∀ m, m ≤ gs.length → cnt p gs m = cnt p es m := by
  intro m
  induction m with
  | zero => intro _; rfl
  | succ m ih =>
    intro hm
    rw [cnt_succ p gs m (by omega), cnt_succ p es m (by omega), ih (by omega)]
    obtain ⟨va, hva, -, -⟩ := twin_at h (i := m) (by omega)
    rw [hva, hp]

/-- A report whose entries lie in a row of its own. -/
structure Full (w : World) (RB B : Nat) (es gs : List Ent) (ao : Option Addr) (cp : Nat) (f p x t : Int) : Prop where
  rep : Rep w RB (.slice ao gs.length cp) f p x t
  own : w.ownsRow B 34 8 (.slice ao gs.length cp) gs.length (ECells gs)
  twin : Twin w es gs

theorem Inv.full {w0 wr : World} {RB : Nat} {es1 es2 : List Ent} {f p x t : Int} {k : Nat} (h : Inv w0 wr RB es1 es2 f p x t k) :
    ∃ (ao : Option Addr) (cp : Nat) (gs : List Ent), gs.length = es1.length + k ∧ Full wr RB w0.heap.size (es1 ++ es2) gs ao cp (wrap64 (f + ((k : Int) - cnt Ent.isErr es2 k - cnt Ent.isPass es2 k))) (wrap64 (p + cnt Ent.isPass es2 k)) (wrap64 (x + cnt Ent.isErr es2 k)) t := by
  obtain ⟨v, gs, i1, i2, i3, i4, -, -⟩ := h
  rcases Joins.ownsRow_forms i2 with ⟨rfl, h0⟩ | ⟨g, cap, rfl⟩
  · refine ⟨none, 0, gs, i3, ?_, ?_, i4⟩
    · rw [h0]; exact i1
    · have : gs = [] := List.eq_nil_of_length_eq_zero h0
      subst this; exact World.ownsRow_nil _ _ _ _
  · exact ⟨_, _, gs, i3, i1, i2, i4⟩

theorem Inv.bel {w0 wr : World} {RB : Nat} {es1 es2 : List Ent} {f p x t : Int} {k : Nat} (h : Inv w0 wr RB es1 es2 f p x t k) : Below w0.heap.size w0 wr := by
  obtain ⟨-, -, -, -, -, -, i5, -⟩ := h; exact i5

/-- The numbers. -/
structure Nums (es2 gT : List Ent) (k : Nat) (WF WP WX HF HP HX TF TP TX : Int) : Prop where
  x : WX = wrap64 (HX + TX)
  p : WP = wrap64 (HP + TP)
  f : WF = wrap64 (HF + TF)
  s : wrap64 (wrap64 (TX + TP) + TF) = (es2.length : Int) - (k : Int)
  sx : TX = (cnt Ent.isErr gT gT.length : Nat)
  sp : TP = (cnt Ent.isPass gT gT.length : Nat)

theorem cnt_both (es : List Ent) (k : Nat) : cnt Ent.isErr es k + cnt Ent.isPass es k ≤ k := by
  unfold cnt
  have h : ∀ l : List Ent, (l.filter Ent.isErr).length + (l.filter Ent.isPass).length ≤ l.length := by
    intro l
    induction l with
    | nil => simp
    | cons a l ih =>
      cases h1 : a.isErr
      · cases h2 : a.isPass <;> simp [h1, h2] <;> omega
      · have h2 : a.isPass = false := by unfold Ent.isPass; rw [h1]; rfl
        simp [h1, h2]; omega
  exact Nat.le_trans (h _) (List.length_take_le _ _)

theorem wrap64_sum (a b : Int) : wrap64 (wrap64 a + wrap64 b) = wrap64 (a + b) := by unfold wrap64; omega
theorem wrap64_small (a : Int) (h0 : -1000000 ≤ a) (h1 : a ≤ 1000000) : wrap64 a = a := by unfold wrap64; omega
theorem wrap64_of {a b : Int} (h : a = b) : wrap64 a = wrap64 b := by rw [h]

theorem nums_of (es2 gT : List Ent) (k j : Nat) (f p x : Int) (E1 P1 E2 P2 : Nat) (hj : k + j = es2.length) (hn : es2.length ≤ 131072) (b : E2 + P2 ≤ j) (hE : cnt Ent.isErr gT gT.length = E2) (hP : cnt Ent.isPass gT gT.length = P2) :
    Nums es2 gT k (wrap64 (f + ((es2.length : Int) - (E1 + E2 : Nat) - (P1 + P2 : Nat)))) (wrap64 (p + (P1 + P2 : Nat))) (wrap64 (x + (E1 + E2 : Nat))) (wrap64 (f + ((k : Int) - E1 - P1))) (wrap64 (p + P1)) (wrap64 (x + E1)) (wrap64 (0 + ((j : Int) - E2 - P2))) (wrap64 (0 + P2)) (wrap64 (0 + E2)) := by
  have q1 : wrap64 (0 + (E2 : Int)) = E2 := by rw [wrap64_small _ (by omega) (by omega)]; omega
  have q2 : wrap64 (0 + (P2 : Int)) = P2 := by rw [wrap64_small _ (by omega) (by omega)]; omega
  have q3 : wrap64 (0 + ((j : Int) - E2 - P2)) = (j : Int) - E2 - P2 := by rw [wrap64_small _ (by omega) (by omega)]; omega
  refine ⟨?_, ?_, ?_, ?_, ?_, ?_⟩
  · rw [wrap64_sum]; exact wrap64_of (by omega)
  · rw [wrap64_sum]; exact wrap64_of (by omega)
  · rw [wrap64_sum]; exact wrap64_of (by omega)
  · rw [q1, q2, q3, wrap64_small ((E2 : Int) + P2) (by omega) (by omega), wrap64_small _ (by omega) (by omega)]; omega
  · rw [q1, hE]
  · rw [q2, hP]

theorem three {w2 wa wb wr : World} {R1 R2 R3 : Nat} {es1 es2 : List Ent} {f p x t : Int} {k j : Nat} (hj : k + j = es2.length) (hn : es2.length ≤ 131072)
    (h1 : Inv w2 wa R1 es1 es2 f p x t es2.length) (h2 : Inv wa wb R2 es1 es2 f p x t k) (h3 : Inv wb wr R3 [] (es2.drop k) 0 0 0 0 j) :
    ∃ (aW aH aT : Option Addr) (cW cH cT : Nat) (gW gH gT : List Ent) (WF WP WX HF HP HX TF TP TX : Int),
      Full wr R1 w2.heap.size (es1 ++ es2) gW aW cW WF WP WX t ∧ Full wr R2 wa.heap.size (es1 ++ es2) gH aH cH HF HP HX t ∧ Full wr R3 wb.heap.size (es2.drop k) gT aT cT TF TP TX 0 ∧
      gW.length = es1.length + es2.length ∧ gH.length = es1.length + k ∧ gT.length = j ∧ Nums es2 gT k WF WP WX HF HP HX TF TP TX := by
  have b3 := h3.bel
  have h2' := h2.keep b3
  have h1' := (h1.keep h2.bel).keep b3
  obtain ⟨aW, cW, gW, lW, fW⟩ := h1'.full
  obtain ⟨aH, cH, gH, lH, fH⟩ := h2'.full
  obtain ⟨aT, cT, gT, lT, fT⟩ := h3.full
  simp only [List.nil_append, List.length_nil, Nat.zero_add] at fT lT
  have e1 := cnt_drop Ent.isErr es2 k j
  have e2 := cnt_drop Ent.isPass es2 k j
  rw [hj] at e1 e2
  have c1 := twin_cnt fT.twin (by rw [List.length_drop]; omega) Ent.isErr (fun e v => rfl) gT.length (Nat.le_refl _)
  have c2 := twin_cnt fT.twin (by rw [List.length_drop]; omega) Ent.isPass (fun e v => rfl) gT.length (Nat.le_refl _)
  rw [lT] at c1 c2
  have b := cnt_both (es2.drop k) j
  refine ⟨aW, aH, aT, cW, cH, cT, gW, gH, gT, _, _, _, _, _, _, _, _, _, fW, fH, fT, lW, lH, lT, ?_⟩
  rw [e1, e2]
  exact nums_of es2 gT k j f p x _ _ _ _ hj hn b (by rw [lT]; exact c1) (by rw [lT]; exact c2)

theorem Full.ents {w : World} {RB B : Nat} {es gs : List Ent} {ao : Option Addr} {cp : Nat} {f p x t : Int} (h : Full w RB B es gs ao cp f p x t) (hl : gs.length ≤ 1000000)
    (hs : ∀ i, i < gs.length → ∃ w0, EntOk w0 (es.getD i ent0)) : Ents w (.slice ao gs.length cp) gs := by
  refine ⟨?_, ?_⟩
  · rcases h.own.2 with ⟨hv, h0⟩ | ⟨g, cap, cur, hv, -, hg, -⟩
    · simp only [Value.slice.injEq] at hv
      exact .inl ⟨by rw [hv.1, hv.2.1, hv.2.2], List.eq_nil_of_length_eq_zero h0⟩
    · simp only [Value.slice.injEq, true_and] at hv
      obtain ⟨rfl, rfl⟩ := hv
      refine .inr ⟨_, _, rfl, by unfold maxLen; omega, .inr ⟨g, 0, rfl, (Array.getElem?_eq_some_iff.1 hg).1, fun i hi => ?_⟩⟩
      rw [Nat.zero_add]
      exact own_at h.own rfl i hi
  · intro e he
    obtain ⟨i, hi, rfl⟩ := List.mem_iff_getElem.1 he
    obtain ⟨va, hva, -, hcl⟩ := twin_at h.twin (i := i) hi
    obtain ⟨w0, ok⟩ := hs i hi
    have e0 : gs[i] = gs.getD i ent0 := by simp [List.getD, hi]
    rw [e0, hva]
    exact ⟨ok.file, ok.target, ok.check, ok.reason, ok.err, ok.dls, hcl.strs⟩
end Go.Proofs.Qxb6630645a

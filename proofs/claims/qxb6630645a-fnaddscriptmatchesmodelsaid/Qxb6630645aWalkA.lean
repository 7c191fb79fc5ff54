/-
  The walk of FnAddScriptMatchesModel.
-/
import Derived.Test.Qxb6630645aInv
import Derived.Test.Qxb6630645aCounts
import Derived.Test.Qxb6630645aBytes
import Derived.Test.Qxb6630645aGuard
namespace Go.Proofs.Qxb6630645a
open Go.ChangeShapes Go.WideShapes Go.ChangeAt Go.RowKit
open Go.Deep

theorem Inv.start {w2 w3 : World} {v : Value} {gs es1 es2 : List Ent} {f p x t : Int} (wf : wrap64 f = f) (wp : wrap64 p = p) (wx : wrap64 x = x)
    (h1 : gs.length = es1.length) (h2 : Twin w3 es1 gs) (h3 : w3.ownsRow w2.heap.size 34 8 v gs.length (ECells gs)) (h4 : Below w2.heap.size w2 w3) :
    Inv w2 (w3.alloc (.cells #[v, .int .i64 f, .int .i64 p, .int .i64 x, .int .i64 t] 30)) w3.heap.size es1 es2 f p x t 0 := by
  have hb : Below w3.heap.size w3 (w3.alloc (.cells #[v, .int .i64 f, .int .i64 p, .int .i64 x, .int .i64 t] 30)) := (Below.refl _ _).alloc (Nat.le_refl _) _
  refine ⟨v, gs, ?_, own_keep h3 hb, by simpa using h1, ?_, h4.alloc h4.size _, h4.size⟩
  · have e : cnt Ent.isErr es2 0 = 0 := rfl
    have e' : cnt Ent.isPass es2 0 = 0 := rfl
    rw [e, e']
    simp only [Int.natCast_zero, Int.sub_zero, Int.add_zero, wf, wp, wx]
    exact blk_alloc_new _ _
  · intro i hi
    rw [getD_left _ _ _ (by omega)]
    exact (h2 i hi).keep (Keep9.of_below hb)

set_option maxHeartbeats 4000000 in
theorem walk3 (v1 v2 : Value) (f p x t : Int) (es1 es2 : List Ent) (w : World) (hE1 : Ents w v1 es1) (hE2 : Ents w v2 es2) (wf : wrap64 f = f) (wp : wrap64 p = p) (wx : wrap64 x = x) :
    Calls Try.prog 3 #[v1, .int .i64 f, .int .i64 p, .int .i64 x, .int .i64 t, v2] w fun y w' => y = .returned (.bool true) ∧ Below w.heap.size w w' := by
  obtain ⟨a2, k2, rfl, hl2, -, hc2⟩ := hE2.shape
  have HE1 : Hid (Ents w v1 es1) := hE1
  have HE2 : Hid (Ents w (.slice a2 es2.length k2) es2) := hE2
  have HC2 : Hid (0 < es2.length → ∃ b off, a2 = some ⟨b, off, none⟩ ∧ ERow w b off es2) := hc2
  have HWF : Hid (wrap64 f = f ∧ wrap64 p = p ∧ wrap64 x = x) := ⟨wf, wp, wx⟩
  clear hE1 hE2 hc2 hl2 wf wp wx
  go_enter Try.func3, Try.ntmps3
  go_wp2_with fail
  refine (guard5 _ _ _ _ _ _ es1 es2 _ HE1.out HE2.out).mono ?_
  rintro y w' ⟨⟨q, rfl⟩, h⟩
  obtain rfl := h.symm
  clear h
  cases q
  · go_wp2
    go_ret
    exact ⟨rfl, Below.refl _ _⟩
  go_wp2_with fail
  refine (listBytes _ v1 es1 _ (by omega) (by omega) HE1.out).mono ?_
  rintro y w1 ⟨⟨s1, ok, rfl, s10, s11, h1⟩, hb1⟩
  have HB1 : Hid (Below w.heap.size w w1) := hb1
  have HN1 : Hid (ok = true → es1.length ≤ 131072 ∧ ∀ i, i < es1.length → (es1.getD i ent0).dl.length ≤ 131072) := h1
  clear hb1 h1
  cases ok
  · go_wp2
    go_ret
    exact ⟨rfl, HB1.out⟩
  go_wp2_with fail
  refine (listBytes _ (.slice a2 es2.length k2) es2 _ s10 s11 (HE2.out.keep HB1.out)).mono ?_
  rintro y w2 ⟨⟨s2, ok, rfl, s20, s21, h2⟩, hb2⟩
  have HB2 : Hid (Below w.heap.size w w2) := HB1.out.trans (hb2.mono HB1.out.size)
  cases ok
  · go_wp2
    go_ret
    exact ⟨rfl, HB2.out⟩
  obtain ⟨hn2, hd2⟩ := h2 rfl
  have HN2 : Hid (∀ i, i < es2.length → (es2.getD i ent0).dl.length ≤ 131072) := hd2
  have HN3 : Hid (es2.length ≤ 131072) := hn2
  clear hb2 h2 hd2
  go_wp2_with fail
  refine (toEntries v1 es1 _ (HE1.out.keep HB2.out) (HN1.out (by trivial)).1 (HN1.out (by trivial)).2).mono ?_
  rintro y w3 ⟨v', gs, rfl, hgl, htw, hown, hb3⟩
  obtain ⟨ao, n, cp, hv⟩ : ∃ (ao : Option Addr) (n cp : Nat), v' = .slice ao n cp := by
    rcases Joins.ownsRow_forms hown with ⟨h, -⟩ | ⟨g, cap, h⟩
    · exact ⟨_, _, _, h⟩
    · exact ⟨_, _, _, h⟩
  have HI : Hid (Inv w2 (w3.alloc (.cells #[v', .int .i64 f, .int .i64 p, .int .i64 x, .int .i64 t] 30)) w3.heap.size es1 es2 f p x t 0) := Inv.start HWF.out.1 HWF.out.2.1 HWF.out.2.2 hgl htw hown hb3
  rw [hv] at HI
  rw [hv]
  clear hgl htw hown hb3 hv
  go_wp2
  go_loopw [16] (fun i wr => ∃ k : Nat, k ≤ es2.length ∧ i = .int .i64 k ∧ Hid (Inv w2 wr w3.heap.size es1 es2 f p x t k)) (fun i _ => es2.length - (intOf i).toNat)
  case atStart => exact ⟨0, Nat.zero_le _, rfl, HI⟩
  case round =>
    clear HI
    obtain ⟨k, hk, rfl, HI⟩ := hrel
    by_cases hlt : k < es2.length
    · obtain ⟨b, o, ha, hr⟩ := HC2.out (by omega)
      subst ha
      obtain ⟨v, gs, i1, i2, i3, i4, i5, i6⟩ := HI.out
      have hbw : Below w.heap.size w wr := HB2.out.trans (i5.mono HB2.out.size)
      have hat := (hr.2 k hlt).keepB hr.1 hbw
      have HEk : Hid (EntOk wr (es2.getD k ent0)) := (HE2.out.2 _ (by simp [List.getD, hlt])).keep hbw
      have HDk : Hid ((es2.getD k ent0).dl.length ≤ 131072) := HN2.out k hlt
      have HLN : Hid (gs.length ≤ 1000000) := by show gs.length ≤ 1000000; have := HN3.out; have := (HN1.out (by trivial)).1; omega
      have HQ : Hid (gs.length = es1.length + k ∧ Twin wr (es1 ++ es2) gs ∧ Below w2.heap.size w2 wr ∧ w2.heap.size ≤ w3.heap.size) := ⟨i3, i4, i5, i6⟩
      have HR : Hid (Rep wr w3.heap.size v (wrap64 (f + ((k : Int) - cnt Ent.isErr es2 k - cnt Ent.isPass es2 k))) (wrap64 (p + cnt Ent.isPass es2 k)) (wrap64 (x + cnt Ent.isErr es2 k)) t) := i1
      have HW : Hid (wr.ownsRow w2.heap.size 34 8 v gs.length (ECells gs)) := i2
      have HLT : Hid (k < es2.length) := hlt
      clear hr hbw i1 i2 i3 i4 i5 i6 HI
      have HST := @Inv.step w2 wr
      obtain ⟨e, he⟩ : ∃ e, e = es2.getD k ent0 := ⟨_, rfl⟩
      rw [← he] at hat HEk HDk
      have HE : Hid (e = es2.getD k ent0) := he
      clear he HST
      obtain ⟨c0, c1, c2, c3, c4, c5, c6, c7⟩ := hat
      go_wp2_with fail
      refine (toEntry e _ HEk.out HDk.out).mono ?_
      rintro y w4 ⟨v', rfl, hnil, hcl, hb4⟩
      have HX : Hid ((v' = .slice none 0 0 ↔ e.dv = .slice none 0 0) ∧ Clone w4 v' e.dl ∧ Below wr.heap.size wr w4) := ⟨hnil, hcl, hb4⟩
      clear hnil hcl hb4
      go_wp2_with fail
      refine (add_any w3.heap.size w2.heap.size v _ _ _ t gs _ _ (HR.out.keep HX.out.2.2) (own_keep HW.out HX.out.2.2) HQ.out.2.2.2 HLN.out HX.out.2.1.form).mono ?_
      rintro y w5 ⟨rfl, v'', y1, y2, y3, y4⟩
      have HI : Hid (Inv w2 w5 w3.heap.size es1 es2 f p x t (k + 1)) := by
        have hX := HX.out
        rw [HE.out] at hX y1 y2
        exact Inv.step HLT.out HQ.out.1 HQ.out.2.1 HQ.out.2.2.1 HQ.out.2.2.2 hX.1 hX.2.1 hX.2.2 y1 y2 y3 y4
      clear y1 y2 y3 y4
      go_wp2
      go_roundw
      case rel => exact ⟨k + 1, by omega, by go_num, HI⟩
      case measure => simp [intOf]; omega
    · obtain rfl : k = es2.length := by omega
      go_wp2_with fail
      have HBW : Hid (Below w.heap.size w wr) := by
        obtain ⟨v, gs, -, -, -, -, i5, -⟩ := HI.out
        exact HB2.out.trans (i5.mono HB2.out.size)
      have hE := cnt_le Ent.isErr es2 es2.length
      have hP := cnt_le Ent.isPass es2 es2.length
      refine (countErr _ es2 _ (HE2.out.keep HBW.out)).mono ?_
      rintro y w' ⟨rfl, h⟩
      obtain rfl := h.symm
      clear h
      go_wp2_with fail
      refine (countPass _ es2 _ (HE2.out.keep HBW.out)).mono ?_
      rintro y w' ⟨rfl, h⟩
      obtain rfl := h.symm
      clear h
      obtain ⟨v, gs, i1, i2, i3, i4, -, -⟩ := HI.out
      obtain ⟨c0, c1, c2, c3, c4, -, -⟩ := i1.cells
      have HM : Hid (wr.ownsRow w2.heap.size 34 8 v gs.length (ECells gs) ∧ gs.length = es1.length + es2.length ∧ Twin wr (es1 ++ es2) gs ∧ gs.length ≤ 1000000) := ⟨i2, i3, i4, by have := HN3.out; have := (HN1.out (by trivial)).1; omega⟩
      clear i1 i2 i3 i4 HI
      generalize cnt Ent.isErr es2 es2.length = cE at *
      generalize cnt Ent.isPass es2 es2.length = cP at *
      go_wp2_with fail
      refine (match_yes v v1 _ gs es1 es2 _ _ HM.out.1 HM.out.2.1 HM.out.2.2.1 (HE1.out.keep HBW.out) (HE2.out.keep HBW.out) HM.out.2.2.2).mono ?_
      rintro y w6 ⟨rfl, hb6⟩
      have HB6 : Hid (Below w.heap.size w w6) := HBW.out.trans (hb6.mono HBW.out.size)
      clear hb6
      go_wp2
      go_ret
      exact ⟨rfl, HB6.out⟩
end Go.Proofs.Qxb6630645a

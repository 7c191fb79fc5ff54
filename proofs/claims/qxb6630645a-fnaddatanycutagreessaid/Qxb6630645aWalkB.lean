/-
  The walk of FnAddAtAnyCutAgrees.
-/
import Derived.Test.Qxb6630645aInv
import Derived.Test.Qxb6630645aCounts
import Derived.Test.Qxb6630645aBytes
import Derived.Test.Qxb6630645aGuardB
import Derived.Test.Qxb6630645aFinal
import Derived.WalkSmall
import Derived.Deep.QuietTactic
import Derived.BigQuiet
import Derived.Deep.RegionHeld
namespace Go.Proofs.Qxb6630645a
open Go.ChangeShapes Go.WideShapes Go.ChangeAt Go.RowKit
open Go.Deep

theorem Inv.start' {w2 w3 : World} {v : Value} {gs es1 es2 : List Ent} {f p x t : Int} (wf : wrap64 f = f) (wp : wrap64 p = p) (wx : wrap64 x = x)
    (h1 : gs.length = es1.length) (h2 : Twin w3 es1 gs) (h3 : w3.ownsRow w2.heap.size 34 8 v gs.length (ECells gs)) (h4 : Below w2.heap.size w2 w3) :
    Inv w2 (w3.alloc (.cells #[v, .int .i64 f, .int .i64 p, .int .i64 x, .int .i64 t] 30)) w3.heap.size es1 es2 f p x t 0 := by
  have hb : Below w3.heap.size w3 (w3.alloc (.cells #[v, .int .i64 f, .int .i64 p, .int .i64 x, .int .i64 t] 30)) := (Below.refl _ _).alloc (Nat.le_refl _) _
  refine ⟨v, gs, ?_, own_keep h3 hb, by simpa using h1, ?_, h4.alloc h4.size _, h4.size⟩
  · have e : cnt Ent.isErr es2 0 = 0 := rfl
    have e' : cnt Ent.isPass es2 0 = 0 := rfl
    rw [e, e']
    simp only [Int.natCast_zero, Int.sub_zero, Int.add_zero, wf, wp, wx]
    exact blk_alloc_new _ _
  · intro i hi
    rw [getD_left _ _ _ (by omega)]
    exact (h2 i hi).keep (Keep9.of_below hb)

theorem wrap64_zero : wrap64 0 = 0 := by unfold wrap64; omega

theorem Ents.dr {w : World} {v : Value} {es : List Ent} (h : Ents w v es) (n : Nat) : Ents (w.drewN n) v es := h.keep (below_drewN (Below.refl _ _) n)
theorem storedErrQ (v : Value) (es : List Ent) (w : World) (hE : Ents w v es) (a x : Nat) :
    Calls Try.prog 14 #[v] (w.drewN (a + x)) fun e w'' => e = .returned (.int .i64 (cnt Ent.isErr es es.length)) ∧ ∃ n, w'' = w.drewN (a + n) :=
  (storedErr v es _ (hE.dr _)).mono fun _ _ ⟨h1, h2⟩ => ⟨h1, x, h2⟩
theorem storedPassQ (v : Value) (es : List Ent) (w : World) (hE : Ents w v es) (a x : Nat) :
    Calls Try.prog 15 #[v] (w.drewN (a + x)) fun e w'' => e = .returned (.int .i64 (cnt Ent.isPass es es.length)) ∧ ∃ n, w'' = w.drewN (a + n) :=
  (storedPass v es _ (hE.dr _)).mono fun _ _ ⟨h1, h2⟩ => ⟨h1, x, h2⟩

theorem Full.keep {w w' : World} {RB B : Nat} {es gs : List Ent} {ao : Option Addr} {cp : Nat} {f p x t : Int} (h : Full w RB B es gs ao cp f p x t) (hb : Below w.heap.size w w') : Full w' RB B es gs ao cp f p x t :=
  ⟨h.rep.keep hb, own_keep h.own hb, h.twin.keep (Keep9.of_below hb)⟩
theorem Ents.take {w : World} {ao : Option Addr} {n cp : Nat} {es : List Ent} (h : Ents w (.slice ao n cp) es) (k : Nat) (hk : k ≤ es.length) : Ents w (.slice ao k cp) (es.take k) := by
  obtain ⟨h1, h2⟩ := h
  have hl : (es.take k).length = k := by simp; omega
  refine ⟨?_, fun e he => h2 e (List.mem_of_mem_take he)⟩
  rcases h1 with ⟨hv, rfl⟩ | ⟨a, cap, hv, hm, h⟩
  · simp only [Value.slice.injEq] at hv
    simp at hk
    subst hk
    exact .inl ⟨by rw [hv.1, hv.2.2], rfl⟩
  · simp only [Value.slice.injEq] at hv
    refine .inr ⟨a, cap, by rw [hl, hv.1, hv.2.2], by rw [hl]; omega, ?_⟩
    rcases h with rfl | ⟨b, off, ha, hr⟩
    · simp at hk; subst hk; exact .inl rfl
    · refine .inr ⟨b, off, ha, hr.1, fun i hi => ?_⟩
      rw [hl] at hi
      have e : (es.take k).getD i ent0 = es.getD i ent0 := by simp [List.getD, hi]
      rw [e]; exact hr.2 i (by omega)
theorem Twin.take {w : World} {es1 es2 gs : List Ent} {k : Nat} (h : Twin w (es1 ++ es2) gs) (hl : gs.length = es1.length + k) (_hk : k ≤ es2.length) : Twin w (es1 ++ es2.take k) gs := by
  intro i hi
  have e : (es1 ++ es2.take k).getD i ent0 = (es1 ++ es2).getD i ent0 := by
    by_cases h1 : i < es1.length
    · rw [getD_left _ _ _ h1, getD_left _ _ _ h1]
    · obtain ⟨m, rfl⟩ : ∃ m, i = es1.length + m := ⟨i - es1.length, by omega⟩
      rw [getD_right, getD_right]
      have : m < k := by omega
      simp [List.getD, this]
  rw [e]; exact h i hi

theorem own_row {w : World} {B n cp : Nat} {ao : Option Addr} {gs : List Ent} (h : w.ownsRow B 34 8 (.slice ao n cp) n (ECells gs)) (hn : gs.length = n) (m : Nat) (hm : m < n) : ∃ g, ao = some ⟨g, 0, none⟩ ∧ g < w.heap.size ∧ At w g (m * 8) (gs.getD m ent0) := by
  obtain ⟨g, cap, hg⟩ := Joins.ownsRow_form h (by omega)
  simp only [Value.slice.injEq, true_and] at hg
  obtain ⟨rfl, rfl⟩ := hg
  exact ⟨g, rfl, own_lt h, own_at h hn m hm⟩

set_option maxRecDepth 100000 in
set_option maxHeartbeats 4000000 in
theorem walk4_out (v1 : Value) (a2 : Option Addr) (k2 : Nat) (f p x t : Int) (es1 es2 : List Ent) (w : World) (hE1 : Ents w v1 es1) (hE2 : Ents w (.slice a2 es2.length k2) es2) (wf : wrap64 f = f) (wp : wrap64 p = p) (wx : wrap64 x = x) (k : Int) (hk : k < 0 ∨ (es2.length : Int) < k) :
    Calls Try.prog 4 #[v1, .int .i64 f, .int .i64 p, .int .i64 x, .int .i64 t, .slice a2 es2.length k2, .int .i64 k] w fun y w' => y = .returned (.bool true) ∧ Below w.heap.size w w' := by
  obtain ⟨hn2', hc2⟩ : True ∧ (0 < es2.length → ∃ b off, a2 = some ⟨b, off, none⟩ ∧ ERow w b off es2) := by
    obtain ⟨ao, cp, hv, -, -, hc⟩ := hE2.shape
    simp only [Value.slice.injEq, true_and] at hv
    obtain ⟨rfl, rfl⟩ := hv
    exact ⟨trivial, hc⟩
  have HE1 : Hid (Ents w v1 es1) := hE1
  have HE2 : Hid (Ents w (.slice a2 es2.length k2) es2) := hE2
  have HC2 : Hid (0 < es2.length → ∃ b off, a2 = some ⟨b, off, none⟩ ∧ ERow w b off es2) := hc2
  have HWF : Hid (wrap64 f = f ∧ wrap64 p = p ∧ wrap64 x = x) := ⟨wf, wp, wx⟩
  clear hE1 hE2 hc2 hn2' wf wp wx
  go_enter Try.func4, Try.ntmps4
  go_wp2_with fail
  refine (guard13 _ _ _ _ _ _ _ es1 es2 _ HE1.out HE2.out).mono ?_
  rintro y w' ⟨⟨q, rfl⟩, h⟩
  obtain rfl := h.symm
  clear h
  cases q
  · go_wp2
    go_ret
    exact ⟨rfl, Below.refl _ _⟩
  go_wp2_with fail
  refine (listBytes _ v1 es1 _ (by omega) (by omega) HE1.out).mono ?_
  rintro y w1 ⟨⟨s1, ok, rfl, s10, s11, h1⟩, hb1⟩
  have HB1 : Hid (Below w.heap.size w w1) := hb1
  have HN1 : Hid (ok = true → es1.length ≤ 131072 ∧ ∀ i, i < es1.length → (es1.getD i ent0).dl.length ≤ 131072) := h1
  clear hb1 h1
  cases ok
  · go_wp2
    go_ret
    exact ⟨rfl, HB1.out⟩
  go_wp2_with fail
  refine (listBytes _ (.slice a2 es2.length k2) es2 _ s10 s11 (HE2.out.keep HB1.out)).mono ?_
  rintro y w2 ⟨⟨s2, ok, rfl, s20, s21, h2⟩, hb2⟩
  have HB2 : Hid (Below w.heap.size w w2) := HB1.out.trans (hb2.mono HB1.out.size)
  cases ok
  · go_wp2
    go_ret
    exact ⟨rfl, HB2.out⟩
  obtain ⟨hn2, hd2⟩ := h2 rfl
  have HN2 : Hid (∀ i, i < es2.length → (es2.getD i ent0).dl.length ≤ 131072) := hd2
  have HN3 : Hid (es2.length ≤ 131072) := hn2
  clear hb2 h2 hd2
  rcases hk with hk | hk
  · have d1 : decide (k < 0) = true := decide_eq_true hk
    go_wp2
    go_ret
    exact ⟨rfl, HB2.out⟩
  · have d1 : decide (k < 0) = false := decide_eq_false (by omega)
    have d2 : decide ((es2.length : Int) < k) = true := decide_eq_true hk
    go_wp2
    go_ret
    exact ⟨rfl, HB2.out⟩

set_option maxRecDepth 100000 in
set_option maxHeartbeats 16000000 in
theorem walk4_in (v1 : Value) (a2 : Option Addr) (k2 : Nat) (f p x t : Int) (es1 es2 : List Ent) (w : World) (hE1 : Ents w v1 es1) (hE2 : Ents w (.slice a2 es2.length k2) es2) (wf : wrap64 f = f) (wp : wrap64 p = p) (wx : wrap64 x = x) (c : Nat) (hc : c ≤ es2.length) (hcap : es2.length ≤ k2) :
    Calls Try.prog 4 #[v1, .int .i64 f, .int .i64 p, .int .i64 x, .int .i64 t, .slice a2 es2.length k2, .int .i64 (c : Int)] w fun y w' => y = .returned (.bool true) ∧ Below w.heap.size w w' := by
  obtain ⟨hn2', hc2⟩ : True ∧ (0 < es2.length → ∃ b off, a2 = some ⟨b, off, none⟩ ∧ ERow w b off es2) := by
    obtain ⟨ao, cp, hv, -, -, hc⟩ := hE2.shape
    simp only [Value.slice.injEq, true_and] at hv
    obtain ⟨rfl, rfl⟩ := hv
    exact ⟨trivial, hc⟩
  have HE1 : Hid (Ents w v1 es1) := hE1
  have HE2 : Hid (Ents w (.slice a2 es2.length k2) es2) := hE2
  have HC2 : Hid (0 < es2.length → ∃ b off, a2 = some ⟨b, off, none⟩ ∧ ERow w b off es2) := hc2
  have HWF : Hid (wrap64 f = f ∧ wrap64 p = p ∧ wrap64 x = x) := ⟨wf, wp, wx⟩
  clear hE1 hE2 hc2 hn2' wf wp wx
  go_enter Try.func4, Try.ntmps4
  go_wp2_with fail
  refine (guard13 _ _ _ _ _ _ _ es1 es2 _ HE1.out HE2.out).mono ?_
  rintro y w' ⟨⟨q, rfl⟩, h⟩
  obtain rfl := h.symm
  clear h
  cases q
  · go_wp2
    go_ret
    exact ⟨rfl, Below.refl _ _⟩
  go_wp2_with fail
  refine (listBytes _ v1 es1 _ (by omega) (by omega) HE1.out).mono ?_
  rintro y w1 ⟨⟨s1, ok, rfl, s10, s11, h1⟩, hb1⟩
  have HB1 : Hid (Below w.heap.size w w1) := hb1
  have HN1 : Hid (ok = true → es1.length ≤ 131072 ∧ ∀ i, i < es1.length → (es1.getD i ent0).dl.length ≤ 131072) := h1
  clear hb1 h1
  cases ok
  · go_wp2
    go_ret
    exact ⟨rfl, HB1.out⟩
  go_wp2_with fail
  refine (listBytes _ (.slice a2 es2.length k2) es2 _ s10 s11 (HE2.out.keep HB1.out)).mono ?_
  rintro y w2 ⟨⟨s2, ok, rfl, s20, s21, h2⟩, hb2⟩
  have HB2 : Hid (Below w.heap.size w w2) := HB1.out.trans (hb2.mono HB1.out.size)
  cases ok
  · go_wp2
    go_ret
    exact ⟨rfl, HB2.out⟩
  obtain ⟨hn2, hd2⟩ := h2 rfl
  have HN2 : Hid (∀ i, i < es2.length → (es2.getD i ent0).dl.length ≤ 131072) := hd2
  have HN3 : Hid (es2.length ≤ 131072) := hn2
  clear hb2 h2 hd2
  have d1 : decide ((c : Int) < 0) = false := decide_eq_false (by omega)
  have d2 : decide ((es2.length : Int) < (c : Int)) = false := decide_eq_false (by omega)
  have HBZ : Hid (Below w.heap.size w w2) := HB2
  go_wp2_with fail
  refine (toEntries v1 es1 _ (HE1.out.keep HBZ.out) (HN1.out (by trivial)).1 (HN1.out (by trivial)).2).mono ?_
  rintro y w3 ⟨v', gs, rfl, hgl, htw, hown, hb3⟩
  obtain ⟨ao, n, cp, hv⟩ : ∃ (ao : Option Addr) (n cp : Nat), v' = .slice ao n cp := by
    rcases Joins.ownsRow_forms hown with ⟨h, -⟩ | ⟨g, cap, h⟩
    · exact ⟨_, _, _, h⟩
    · exact ⟨_, _, _, h⟩
  have HI : Hid (Inv w2 (w3.alloc (.cells #[v', .int .i64 f, .int .i64 p, .int .i64 x, .int .i64 t] 30)) w3.heap.size es1 es2 f p x t 0) := Inv.start' HWF.out.1 HWF.out.2.1 HWF.out.2.2 hgl htw hown hb3
  rw [hv] at HI
  rw [hv]
  clear hgl htw hown hb3 hv
  go_wp2
  clear d1 d2
  go_loopw [18] (fun i wr => ∃ k : Nat, k ≤ es2.length ∧ i = .int .i64 k ∧ Hid (Inv w2 wr w3.heap.size es1 es2 f p x t k)) (fun i _ => es2.length - (intOf i).toNat)
  case atStart => exact ⟨0, Nat.zero_le _, rfl, HI⟩
  case round =>
    clear HI
    obtain ⟨k, hk, rfl, HI⟩ := hrel
    by_cases hlt : k < es2.length
    · obtain ⟨b, o, ha, hr⟩ := HC2.out (by omega)
      subst ha
      obtain ⟨v, gs, i1, i2, i3, i4, i5, i6⟩ := HI.out
      have hbw : Below w.heap.size w wr := HBZ.out.trans (i5.mono HBZ.out.size)
      have hat := (hr.2 (k) (by omega)).keepB hr.1 hbw
      have HEk : Hid (EntOk wr (es2.getD (k) ent0)) := (HE2.out.2 _ (by simp only [List.getD_eq_getElem?_getD]; rw [List.getElem?_eq_getElem (by omega)]; exact List.getElem_mem _)).keep hbw
      have HDk : Hid ((es2.getD (k) ent0).dl.length ≤ 131072) := HN2.out (k) (by omega)
      have HLN : Hid (gs.length ≤ 1000000) := by show gs.length ≤ 1000000; have := HN3.out; have := (HN1.out (by trivial)).1; first | omega | (simp at i3; omega)
      have HQ : Hid (gs.length = es1.length + k ∧ Twin wr (es1 ++ es2) gs ∧ Below w2.heap.size w2 wr ∧ w2.heap.size ≤ w3.heap.size) := ⟨i3, i4, i5, i6⟩
      have HR : Hid (Rep wr w3.heap.size v (wrap64 (f + ((k : Int) - cnt Ent.isErr es2 k - cnt Ent.isPass es2 k))) (wrap64 (p + cnt Ent.isPass es2 k)) (wrap64 (x + cnt Ent.isErr es2 k)) t) := i1
      have HW : Hid (wr.ownsRow w2.heap.size 34 8 v gs.length (ECells gs)) := i2
      have HLT : Hid (k < es2.length) := by show k < es2.length; first | omega | (simp; omega)
      clear hr hbw i1 i2 i3 i4 i5 i6 HI
      obtain ⟨e, he⟩ : ∃ e, e = es2.getD (k) ent0 := ⟨_, rfl⟩
      rw [← he] at hat HEk HDk
      have HE : Hid (e = es2.getD (k) ent0) := he
      clear he
      obtain ⟨c0, c1, c2, c3, c4, c5, c6, c7⟩ := hat
      go_wp2_with fail
      refine (toEntry e _ HEk.out HDk.out).mono ?_
      rintro y w4 ⟨v', rfl, hnil, hcl, hb4⟩
      have HX : Hid ((v' = .slice none 0 0 ↔ e.dv = .slice none 0 0) ∧ Clone w4 v' e.dl ∧ Below wr.heap.size wr w4) := ⟨hnil, hcl, hb4⟩
      clear hnil hcl hb4
      go_wp2_with fail
      refine (add_any w3.heap.size w2.heap.size v _ _ _ t gs _ _ (HR.out.keep HX.out.2.2) (own_keep HW.out HX.out.2.2) HQ.out.2.2.2 HLN.out HX.out.2.1.form).mono ?_
      rintro y w5 ⟨rfl, v'', y1, y2, y3, y4⟩
      have HI : Hid (Inv w2 w5 w3.heap.size es1 es2 f p x t (k + 1)) := by
        have hX := HX.out
        rw [HE.out] at hX y1 y2
        exact Inv.step HLT.out HQ.out.1 HQ.out.2.1 HQ.out.2.2.1 HQ.out.2.2.2 hX.1 hX.2.1 hX.2.2 y1 y2 y3 y4
      clear y1 y2 y3 y4
      go_wp2
      go_roundw
      case rel => exact ⟨k + 1, by omega, by go_num, HI⟩
      case measure => simp [intOf]; omega
    obtain rfl : k = es2.length := by omega
    obtain ⟨wa, hwa⟩ : ∃ wa, wa = wr := ⟨wr, rfl⟩
    subst hwa
    have HI1 : Hid (Inv w2 wa w3.heap.size es1 es2 f p x t es2.length) := HI
    have HBA : Hid (Below w.heap.size w wa) := by
      obtain ⟨v, gs, -, -, -, -, i5, -⟩ := HI.out
      exact HBZ.out.trans (i5.mono HBZ.out.size)
    clear HBZ HI
    have HBZ : Hid (Below w.heap.size w wa) := HBA
    go_wp2_with fail
    refine (toEntries v1 es1 _ (HE1.out.keep HBZ.out) (HN1.out (by trivial)).1 (HN1.out (by trivial)).2).mono ?_
    rintro y w6 ⟨v', gs, rfl, hgl, htw, hown, hb3⟩
    obtain ⟨ao, n, cp, hv⟩ : ∃ (ao : Option Addr) (n cp : Nat), v' = .slice ao n cp := by
      rcases Joins.ownsRow_forms hown with ⟨h, -⟩ | ⟨g, cap, h⟩
      · exact ⟨_, _, _, h⟩
      · exact ⟨_, _, _, h⟩
    have HI : Hid (Inv wa (w6.alloc (.cells #[v', .int .i64 f, .int .i64 p, .int .i64 x, .int .i64 t] 30)) w6.heap.size es1 es2 f p x t 0) := Inv.start' HWF.out.1 HWF.out.2.1 HWF.out.2.2 hgl htw hown hb3
    rw [hv] at HI
    rw [hv]
    clear hgl htw hown hb3 hv
    go_wp2
    go_loopw [20] (fun i wr => ∃ k : Nat, k ≤ c ∧ i = .int .i64 k ∧ Hid (Inv wa wr w6.heap.size es1 es2 f p x t k)) (fun i _ => c - (intOf i).toNat)
    case atStart => exact ⟨0, Nat.zero_le _, rfl, HI⟩
    case round =>
      clear HI
      obtain ⟨k, hk, rfl, HI⟩ := hrel
      by_cases hlt : k < c
      · obtain ⟨b, o, ha, hr⟩ := HC2.out (by omega)
        subst ha
        obtain ⟨v, gs, i1, i2, i3, i4, i5, i6⟩ := HI.out
        have hbw : Below w.heap.size w wr := HBZ.out.trans (i5.mono HBZ.out.size)
        have hat := (hr.2 (k) (by omega)).keepB hr.1 hbw
        have HEk : Hid (EntOk wr (es2.getD (k) ent0)) := (HE2.out.2 _ (by simp only [List.getD_eq_getElem?_getD]; rw [List.getElem?_eq_getElem (by omega)]; exact List.getElem_mem _)).keep hbw
        have HDk : Hid ((es2.getD (k) ent0).dl.length ≤ 131072) := HN2.out (k) (by omega)
        have HLN : Hid (gs.length ≤ 1000000) := by show gs.length ≤ 1000000; have := HN3.out; have := (HN1.out (by trivial)).1; first | omega | (simp at i3; omega)
        have HQ : Hid (gs.length = es1.length + k ∧ Twin wr (es1 ++ es2) gs ∧ Below wa.heap.size wa wr ∧ wa.heap.size ≤ w6.heap.size) := ⟨i3, i4, i5, i6⟩
        have HR : Hid (Rep wr w6.heap.size v (wrap64 (f + ((k : Int) - cnt Ent.isErr es2 k - cnt Ent.isPass es2 k))) (wrap64 (p + cnt Ent.isPass es2 k)) (wrap64 (x + cnt Ent.isErr es2 k)) t) := i1
        have HW : Hid (wr.ownsRow wa.heap.size 34 8 v gs.length (ECells gs)) := i2
        have HLT : Hid (k < es2.length) := by show k < es2.length; first | omega | (simp; omega)
        clear hr hbw i1 i2 i3 i4 i5 i6 HI
        obtain ⟨e, he⟩ : ∃ e, e = es2.getD (k) ent0 := ⟨_, rfl⟩
        rw [← he] at hat HEk HDk
        have HE : Hid (e = es2.getD (k) ent0) := he
        clear he
        obtain ⟨c0, c1, c2, c3, c4, c5, c6, c7⟩ := hat
        go_wp2_with fail
        refine (toEntry e _ HEk.out HDk.out).mono ?_
        rintro y w4 ⟨v', rfl, hnil, hcl, hb4⟩
        have HX : Hid ((v' = .slice none 0 0 ↔ e.dv = .slice none 0 0) ∧ Clone w4 v' e.dl ∧ Below wr.heap.size wr w4) := ⟨hnil, hcl, hb4⟩
        clear hnil hcl hb4
        go_wp2_with fail
        refine (add_any w6.heap.size wa.heap.size v _ _ _ t gs _ _ (HR.out.keep HX.out.2.2) (own_keep HW.out HX.out.2.2) HQ.out.2.2.2 HLN.out HX.out.2.1.form).mono ?_
        rintro y w5 ⟨rfl, v'', y1, y2, y3, y4⟩
        have HI : Hid (Inv wa w5 w6.heap.size es1 es2 f p x t (k + 1)) := by
          have hX := HX.out
          rw [HE.out] at hX y1 y2
          exact Inv.step HLT.out HQ.out.1 HQ.out.2.1 HQ.out.2.2.1 HQ.out.2.2.2 hX.1 hX.2.1 hX.2.2 y1 y2 y3 y4
        clear y1 y2 y3 y4
        go_wp2
        go_roundw
        case rel => exact ⟨k + 1, by omega, by go_num, HI⟩
        case measure => simp [intOf]; omega
      obtain rfl : k = c := by omega
      obtain ⟨wb, hwb⟩ : ∃ wb, wb = wr := ⟨wr, rfl⟩
      subst hwb
      have HI2 : Hid (Inv wa wb w6.heap.size es1 es2 f p x t k) := HI
      have HBB : Hid (Below w.heap.size w wb) := by
        obtain ⟨v, gs, -, -, -, -, i5, -⟩ := HI.out
        exact HBZ.out.trans (i5.mono HBZ.out.size)
      clear HBZ HI
      have HBZ : Hid (Below w.heap.size w wb) := HBB
      go_wp2
      have HI : Hid (Inv wb (wb.alloc (.cells #[.slice none 0 0, .int .i64 0, .int .i64 0, .int .i64 0, .int .i64 0] 30)) wb.heap.size [] (es2.drop k) 0 0 0 0 0) :=
        Inv.start' (gs := []) wrap64_zero wrap64_zero wrap64_zero rfl (fun i hi => absurd hi (Nat.not_lt_zero _)) (World.ownsRow_nil _ _ _ _) (Below.refl _ _)
      go_loopw [22] (fun i wr => ∃ j : Nat, k + j ≤ es2.length ∧ i = .int .i64 ((k + j : Nat) : Int) ∧ Hid (Inv wb wr wb.heap.size [] (es2.drop k) 0 0 0 0 j)) (fun i _ => es2.length - (intOf i).toNat)
      case atStart => exact ⟨0, by omega, rfl, HI⟩
      case round =>
        clear HI
        obtain ⟨j, hj, rfl, HI⟩ := hrel
        by_cases hlt : k + j < es2.length
        · obtain ⟨b, o, ha, hr⟩ := HC2.out (by omega)
          subst ha
          obtain ⟨v, gs, i1, i2, i3, i4, i5, i6⟩ := HI.out
          have hbw : Below w.heap.size w wr := HBZ.out.trans (i5.mono HBZ.out.size)
          have hat := (hr.2 (k + j) (by omega)).keepB hr.1 hbw
          have HEk : Hid (EntOk wr (es2.getD (k + j) ent0)) := (HE2.out.2 _ (by simp only [List.getD_eq_getElem?_getD]; rw [List.getElem?_eq_getElem (by omega)]; exact List.getElem_mem _)).keep hbw
          have HDk : Hid ((es2.getD (k + j) ent0).dl.length ≤ 131072) := HN2.out (k + j) (by omega)
          have HLN : Hid (gs.length ≤ 1000000) := by show gs.length ≤ 1000000; have := HN3.out; have := (HN1.out (by trivial)).1; first | omega | (simp at i3; omega)
          have HQ : Hid (gs.length = ([] : List Ent).length + j ∧ Twin wr (([] : List Ent) ++ (es2.drop k)) gs ∧ Below wb.heap.size wb wr ∧ wb.heap.size ≤ wb.heap.size) := ⟨i3, i4, i5, i6⟩
          have HR : Hid (Rep wr wb.heap.size v (wrap64 (0 + ((j : Int) - cnt Ent.isErr (es2.drop k) j - cnt Ent.isPass (es2.drop k) j))) (wrap64 (0 + cnt Ent.isPass (es2.drop k) j)) (wrap64 (0 + cnt Ent.isErr (es2.drop k) j)) 0) := i1
          have HW : Hid (wr.ownsRow wb.heap.size 34 8 v gs.length (ECells gs)) := i2
          have HLT : Hid (j < (es2.drop k).length) := by show j < (es2.drop k).length; first | omega | (simp; omega)
          have HGE : Hid (es2.getD (k + j) ent0 = (es2.drop k).getD j ent0) := by show es2.getD (k + j) ent0 = (es2.drop k).getD j ent0; simp [List.getD]
          clear hr hbw i1 i2 i3 i4 i5 i6 HI
          obtain ⟨e, he⟩ : ∃ e, e = es2.getD (k + j) ent0 := ⟨_, rfl⟩
          rw [← he] at hat HEk HDk
          have HE : Hid (e = es2.getD (k + j) ent0) := he
          clear he
          obtain ⟨c0, c1, c2, c3, c4, c5, c6, c7⟩ := hat
          go_wp2_with fail
          refine (toEntry e _ HEk.out HDk.out).mono ?_
          rintro y w4 ⟨v', rfl, hnil, hcl, hb4⟩
          have HX : Hid ((v' = .slice none 0 0 ↔ e.dv = .slice none 0 0) ∧ Clone w4 v' e.dl ∧ Below wr.heap.size wr w4) := ⟨hnil, hcl, hb4⟩
          clear hnil hcl hb4
          go_wp2_with fail
          refine (add_any wb.heap.size wb.heap.size v _ _ _ 0 gs _ _ (HR.out.keep HX.out.2.2) (own_keep HW.out HX.out.2.2) HQ.out.2.2.2 HLN.out HX.out.2.1.form).mono ?_
          rintro y w5 ⟨rfl, v'', y1, y2, y3, y4⟩
          have HI : Hid (Inv wb w5 wb.heap.size ([] : List Ent) (es2.drop k) 0 0 0 0 (j + 1)) := by
            have hX := HX.out
            rw [HE.out, HGE.out] at hX y1 y2
            exact Inv.step HLT.out HQ.out.1 HQ.out.2.1 HQ.out.2.2.1 HQ.out.2.2.2 hX.1 hX.2.1 hX.2.2 y1 y2 y3 y4
          clear y1 y2 y3 y4
          go_wp2
          go_roundw
          case rel => exact ⟨j + 1, by omega, by go_num, HI⟩
          case measure => simp [intOf]; omega
        have hje : k + j = es2.length := by omega
        obtain ⟨aW, aH, aT, cW, cH, cT, gW, gH, gT, WF, WP, WX, HF, HP, HX, TF, TP, TX, fW, fH, fT, lW, lH, lT, hN⟩ := three hje HN3.out HI1.out HI2.out HI.out
        obtain ⟨cw0, cw1, cw2, cw3, cw4, -, -⟩ := fW.rep.cells
        obtain ⟨ch0, ch1, ch2, ch3, ch4, -, -⟩ := fH.rep.cells
        obtain ⟨ct0, ct1, ct2, ct3, ct4, -, -⟩ := fT.rep.cells
        have bX : (WX != wrap64 (HX + TX)) = false := by rw [hN.x]; simp
        have bP : (WP != wrap64 (HP + TP)) = false := by rw [hN.p]; simp
        have bF : (WF != wrap64 (HF + TF)) = false := by rw [hN.f]; simp
        have bS : (wrap64 (wrap64 (TX + TP) + TF) != (es2.length : Int) - (k : Int)) = false := by rw [hN.s]; simp
        have bE : (TX != ((cnt Ent.isErr gT gT.length : Nat) : Int)) = false := by rw [hN.sx]; simp
        have bQ : (TP != ((cnt Ent.isPass gT gT.length : Nat) : Int)) = false := by rw [hN.sp]; simp
        have HBE : Hid (Below w.heap.size w wr) := HBZ.out.trans (HI.out.bel.mono HBZ.out.size)
        have HFW : Hid (Full wr w3.heap.size w2.heap.size (es1 ++ es2) gW aW cW WF WP WX t ∧ gW.length = es1.length + es2.length) := ⟨fW, lW⟩
        have HFH : Hid (Full wr w6.heap.size wa.heap.size (es1 ++ es2) gH aH cH HF HP HX t ∧ gH.length = es1.length + k) := ⟨fH, lH⟩
        have HFT : Hid (Full wr wb.heap.size wb.heap.size (es2.drop k) gT aT cT TF TP TX 0 ∧ gT.length = j) := ⟨fT, lT⟩
        have HTE : Hid (Ents wr (.slice aT gT.length cT) gT) := fT.ents (by have := HN3.out; omega) (fun i hi => ⟨w, by
          have e1 : (es2.drop k).getD i ent0 = es2.getD (k + i) ent0 := by simp [List.getD]
          rw [e1]
          exact HE2.out.2 _ (by simp only [List.getD_eq_getElem?_getD]; rw [List.getElem?_eq_getElem (by omega)]; exact List.getElem_mem _)⟩)
        clear fW fH fT lW lH lT hN HI
        go_wp2
        go_quiet (fail)
        go_wp2
        go_quiet (fail)
        go_wp2
        go_quiet ((first | (go_at_call 14; exact storedErrQ _ gT _ HTE.out _ _) | (go_at_call 15; exact storedPassQ _ gT _ HTE.out _ _)))
        go_wp2_with fail
        refine (match_yes (.slice aW gW.length cW) v1 _ gW es1 es2 w2.heap.size _ (own_keep HFW.out.1.own (below_drewN (Below.refl _ _) _)) HFW.out.2 (HFW.out.1.twin.keep (Keep9.of_below (below_drewN (Below.refl _ _) _))) (HE1.out.keep (below_drewN HBE.out _)) (HE2.out.keep (below_drewN HBE.out _)) (by have := HN3.out; have := (HN1.out (by trivial)).1; have := HFW.out.2; omega)).mono ?_
        rintro y w7 ⟨rfl, hb7⟩
        have hb7' : Below wr.heap.size wr w7 := (below_drewN (Below.refl _ _) _).trans hb7
        clear hb7
        have GW := HFW.out.1.keep hb7'
        have GH := HFH.out.1.keep hb7'
        have GT := HFT.out.1.keep hb7'
        have HB7 : Hid (Below w.heap.size w w7) := HBE.out.trans (hb7'.mono HBE.out.size)
        clear cw0 cw1 cw2 cw3 cw4 ch0 ch1 ch2 ch3 ch4 ct0 ct1 ct2 ct3 ct4 bX bP bF bS bE bQ hb7'
        have dw0 := GW.rep.cells.1
        have dh0 := GH.rep.cells.1
        have dt0 := GT.rep.cells.1
        have hk1 : (0 : Int) ≤ (k : Int) := by omega
        have hk2 : (k : Int) ≤ (k2 : Int) := by omega
        have HGW : Hid (Full w7 w3.heap.size w2.heap.size (es1 ++ es2) gW aW cW WF WP WX t) := GW
        have HGH : Hid (Full w7 w6.heap.size wa.heap.size (es1 ++ es2) gH aH cH HF HP HX t) := GH
        have HGT : Hid (Full w7 wb.heap.size wb.heap.size (es2.drop k) gT aT cT TF TP TX 0) := GT
        have HHL : Hid (gH.length = es1.length + k ∧ gH.length ≤ 1000000 ∧ k ≤ es2.length) := by
          have h1 := HFH.out.2; have h2 := HN3.out; have h3 := (HN1.out (by trivial)).1
          exact ⟨h1, by omega, by omega⟩
        clear GW GH GT
        go_wp2
        first
          | go_region_held (fun W => W.cell? ⟨w6.heap.size, 0, none⟩ = some (.slice aH gH.length cH)) (go_simp)
              (first | (go_at_call 12; refine (match_yes (.slice aH gH.length cH) v1 (.slice a2 k k2) gH es1 (es2.take k) wa.heap.size _ ?_ ?_ ?_ ?_ ?_ ?_).mono ?_; exact own_keep HGH.out.own (by exact (Below.refl _ _).drew); exact (by have h := HHL.out; rw [List.length_take]; omega); exact (HGH.out.twin.keep (Keep9.of_below (by exact (Below.refl _ _).drew))).take HHL.out.1 HHL.out.2.2; exact HE1.out.keep (by exact HB7.out.drew); exact (HE2.out.keep (by exact HB7.out.drew)).take k HHL.out.2.2; exact HHL.out.2.1; rintro y w8 ⟨rfl, hb8⟩; have HB8 : Hid (Below w7.heap.size w7 w8) := (Below.refl _ _).drew.trans hb8; have dh8 := (HGH.out.keep HB8.out).rep.cells.1; clear hb8))
          | fail
        have GW := HGW.out.keep HB8.out
        have GH := HGH.out.keep HB8.out
        have GT := HGT.out.keep HB8.out
        have HB9 : Hid (Below w.heap.size w w8) := HB7.out.trans (HB8.out.mono HB7.out.size)
        clear dw0 dh0 dt0 dh8 hk1 hk2
        have dw0 := GW.rep.cells.1
        have dh0 := GH.rep.cells.1
        have dt0 := GT.rep.cells.1
        have bL : (((gW.length : Nat) : Int) != ((gH.length : Nat) : Int) + ((gT.length : Nat) : Int)) = false := by
          have h1 := HFW.out.2; have h2 := HFH.out.2; have h3 := HFT.out.2
          rw [bne_eq_false_iff_eq]; omega
        have lW : gW.length ≤ 1000000 := by
          have h1 := HFW.out.2; have h2 := HN3.out; have h3 := (HN1.out (by trivial)).1; omega
        have lH : gH.length ≤ 1000000 := HHL.out.2.1
        have lT : gT.length ≤ 1000000 := by have h1 := HFT.out.2; have h2 := HN3.out; omega
        have HG8 : Hid (Full w8 wb.heap.size wb.heap.size (es2.drop k) gT aT cT TF TP TX 0) := GT
        clear GW GH GT HGW HGH HGT
        go_wp2
        go_quiet (fail)
        go_wp2
        have HKM : Hid (k + gT.length = es2.length ∧ es2.length ≤ 131072) := by
          have h1 := HFT.out.2; have h2 := HN3.out
          exact ⟨by omega, h2⟩
        clear dw0 dh0 dt0 bL
        go_loopw [23] (fun i wz => ∃ m : Nat, m ≤ gT.length ∧ i = .int .i64 m ∧ Hid (Below w8.heap.size w8 wz)) (fun i _ => gT.length - (intOf i).toNat)
        case atStart => exact ⟨0, Nat.zero_le _, rfl, below_drewN (Below.refl _ _) _⟩
        case round =>
          obtain ⟨m, hm, rfl, HBm⟩ := hrel
          have z0 := (HG8.out.keep HBm.out).rep.cells.1
          by_cases hlt2 : m < gT.length
          · obtain ⟨g, hag, hglt, hat⟩ := own_row HG8.out.own rfl m hlt2
            subst hag
            obtain ⟨b, o, ha, hr⟩ := HC2.out (by have := HKM.out.1; omega)
            subst ha
            obtain ⟨va, hva, hnil, hcl⟩ := twin_at HG8.out.twin (i := m) hlt2
            have ed : (es2.drop k).getD m ent0 = es2.getD (k + m) ent0 := by simp [List.getD]
            rw [ed] at hva hnil hcl
            have A1 := hat.keepB hglt HBm.out
            rw [hva] at A1
            have HBX : Hid (Below w.heap.size w wr) := HB9.out.trans (HBm.out.mono HB9.out.size)
            have A2 := (hr.2 (k + m) (by have := HKM.out.1; omega)).keepB hr.1 HBX.out
            have HS : Hid (Strs wr va (es2.getD (k + m) ent0).dl ∧ Strs wr (es2.getD (k + m) ent0).dv (es2.getD (k + m) ent0).dl ∧ (va = .slice none 0 0 ↔ (es2.getD (k + m) ent0).dv = .slice none 0 0)) :=
              ⟨hcl.strs.keep HBm.out, ((HE2.out.2 _ (by simp only [List.getD_eq_getElem?_getD]; rw [List.getElem?_eq_getElem (by have := HKM.out.1; omega)]; exact List.getElem_mem _)).det).keep HBX.out, hnil⟩
            have l1 : g < wr.heap.size := Nat.lt_of_lt_of_le hglt HBm.out.size
            have l2 : b < wr.heap.size := Nat.lt_of_lt_of_le hr.1 HBX.out.size
            clear hva hnil hcl hat hr hglt ed
            generalize es2.getD (k + m) ent0 = e at *
            have HA1 : Hid (At wr g _ _) := A1
            have HA2 : Hid (At wr b _ e) := A2
            obtain ⟨c0, c1, c2, c3, c4, c5, c6, c7⟩ := A1
            obtain ⟨d0, d1, d2, d3, d4, d5, d6, d7⟩ := A2
            simp only at c0 c1 c2 c3 c4 c5 c6 c7
            have hgl : (k : Int) + (m : Int) < (es2.length : Int) := by have := HKM.out.1; omega
            have hg0 : (0 : Int) ≤ (k : Int) + (m : Int) := by omega
            have hgt : ((k : Int) + (m : Int)).toNat = k + m := by omega
            have hgw : IntKind.i64.wrap ((k : Int) + (m : Int)) = (k : Int) + (m : Int) := by have := HKM.out; rw [IntKind.wrap_i64]; omega
            have hgn : ¬ (k : Int) + (m : Int) < 0 := by omega
            have hm1 : (m : Int) < (gT.length : Int) := by omega
            go_wp2
            first
              | go_region_held (fun W => W.cell? ⟨wb.heap.size, 0, none⟩ = some (.slice (some ⟨g, 0, none⟩) gT.length cT) ∧ W.cell? ⟨g, m * 8, none⟩ = some (.string e.file) ∧ W.cell? ⟨g, m * 8 + 1, none⟩ = some (.int .i64 e.line) ∧ W.cell? ⟨g, m * 8 + 2, none⟩ = some (.string e.target) ∧ W.cell? ⟨g, m * 8 + 3, none⟩ = some (.string e.check) ∧ W.cell? ⟨g, m * 8 + 4, none⟩ = some (.bool e.pass) ∧ W.cell? ⟨g, m * 8 + 5, none⟩ = some (.string e.reason) ∧ W.cell? ⟨g, m * 8 + 6, none⟩ = some (.string e.err) ∧ W.cell? ⟨g, m * 8 + 7, none⟩ = some va ∧
                    W.cell? ⟨b, o + (k + m) * 8, none⟩ = some (.string e.file) ∧ W.cell? ⟨b, o + (k + m) * 8 + 1, none⟩ = some (.int .i64 e.line) ∧ W.cell? ⟨b, o + (k + m) * 8 + 2, none⟩ = some (.string e.target) ∧ W.cell? ⟨b, o + (k + m) * 8 + 3, none⟩ = some (.string e.check) ∧ W.cell? ⟨b, o + (k + m) * 8 + 4, none⟩ = some (.bool e.pass) ∧ W.cell? ⟨b, o + (k + m) * 8 + 5, none⟩ = some (.string e.reason) ∧ W.cell? ⟨b, o + (k + m) * 8 + 6, none⟩ = some (.string e.err) ∧ W.cell? ⟨b, o + (k + m) * 8 + 7, none⟩ = some e.dv) (go_simp)
                  (first | (go_at_call 16; refine (same_yes e va _ ?_ ?_ ?_).mono ?_; exact HS.out.1.keep (by exact (Below.refl _ _).drew); exact HS.out.2.1.keep (by exact (Below.refl _ _).drew); exact HS.out.2.2; rintro y wn ⟨rfl, hb1⟩; obtain ⟨x0, x1, x2, x3, x4, x5, x6, x7⟩ := HA1.out.drew.keepB l1 hb1; obtain ⟨y0, y1, y2, y3, y4, y5, y6, y7⟩ := HA2.out.drew.keepB l2 hb1; simp only at x0 x1 x2 x3 x4 x5 x6 x7; have HB1 : Hid (Below _ _ wn) := hb1; have z1 := (HG8.out.keep (HBm.out.drew.trans (hb1.mono HBm.out.size))).rep.cells.1; clear hb1))
              | fail
            go_wp2
            go_roundw
            case rel => exact ⟨m + 1, by omega, by go_num, HBm.out.drew.trans (HB1.out.mono HBm.out.size)⟩
            case measure => simp [intOf]; omega
          · go_wp2
            go_ret
            exact ⟨rfl, HB9.out.trans (HBm.out.mono HB9.out.size)⟩
end Go.Proofs.Qxb6630645a

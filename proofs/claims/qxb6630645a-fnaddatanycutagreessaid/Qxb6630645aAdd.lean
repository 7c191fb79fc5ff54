/-
  (*Report).Add: one counter, one append.
-/
import Derived.Test.Qxb6630645aEntries
import Derived.Deep.RegionLaw
import Derived.Lib.Strings
namespace Go.Proofs.Qxb6630645a
open Go.ChangeShapes Go.WideShapes Go.ChangeAt Go.RowKit
open Go.Deep

/-- append onto a slice of the call's own, as one step of a region that draws. -/
theorem step_append_own {P : Program} {ops : Array Oper} {o : Oper} {a : Act} {w : World} {K : Act → World → Prop} {Q : Exit → Act → World → Prop} {E : Prop}
    (hg : o.guard = none) (s x : Operand) (t : TypeId) (hop : o.op = Op.call { callee := Callee.builtin Builtin.append, args := #[s, x], argTypes := #[t, t] })
    (base : Nat) (e : TypeId) (i : TypeInfo) (z : Value) (size bytes : Nat) (h1 : P.underlying t = some (.slice e)) (h2 : P.info? e = some i) (h3 : i.zero = some z) (h4 : i.size = size) (h5 : i.bytes = bytes) (h6 : z.cells.size = size) (h7 : 0 < size)
    (v : Value) (n : Nat) (xs : List Value) (hs : a.eval s = v) (hown : w.ownsRow base e size v n xs)
    (ad : Addr) (m c : Nat) (news : List Value) (hx : a.eval x = .slice (some ad) m c) (hn : news.length = m * size) (hc : ∀ j u, news[j]? = some u → w.cell? (ad.add j) = some u) (h1c : ∀ u ∈ news, u.oneCell' = true)
    (b1 : n + m ≤ maxLen) (b2 : (n + m) * bytes ≤ 140737488355328) (hbase : base ≤ w.heap.size)
    (hK : ∀ v' w', w'.ownsRow base e size v' (n + m) (xs ++ news) → w.grownBy w' v.ownBlock → K (a.put o.dst v') w') :
    if Region.wanted o (yielded ops a.tmps) = true then Oper.wp P o a w K Q else E := by
  have hw : Region.wanted o (yielded ops a.tmps) = true := by simp [Region.wanted, hg]
  rw [if_pos hw]
  obtain ⟨v', w', hrun, r1, r2, _⟩ := run_append_own (P := P) w base t o.type e i z size bytes h1 h2 h3 h4 h5 h6 h7 v n xs hown ad m c news hn hc h1c b1 b2 hbase
  unfold Oper.wp
  simp [execOp, hop, resolve, invoke, builtin, hs, hx, hrun, Result.andThen]
  exact hK v' w' r1 r2

/-- The report's five cells. -/
def Rep (w : World) (b : Nat) (v : Value) (f p x t : Int) : Prop := w.heap[b]? = some (Obj.cells #[v, .int .i64 f, .int .i64 p, .int .i64 x, .int .i64 t] 30 (0, 0))

theorem Rep.cells {w : World} {b : Nat} {v : Value} {f p x t : Int} (h : Rep w b v f p x t) :
    w.cell? ⟨b, 0, none⟩ = some v ∧ w.cell? ⟨b, 1, none⟩ = some (.int .i64 f) ∧ w.cell? ⟨b, 2, none⟩ = some (.int .i64 p) ∧ w.cell? ⟨b, 3, none⟩ = some (.int .i64 x) ∧ w.cell? ⟨b, 4, none⟩ = some (.int .i64 t) ∧ (∀ i, w.frozen? ⟨b, i, none⟩ = false) ∧ b < w.heap.size := by
  unfold Rep at h
  refine ⟨?_, ?_, ?_, ?_, ?_, fun i => ?_, (Array.getElem?_eq_some_iff.1 h).1⟩ <;> simp [World.cell?, World.frozen?, h]

theorem Rep.ne {w : World} {b B n : Nat} {v u : Value} {f p x t : Int} {xs : List Value} (h : Rep w b v f p x t) (ho : w.ownsRow B 34 8 u n xs) : u.ownBlock ≠ some b := by
  intro e
  rcases ho.2 with ⟨rfl, _⟩ | ⟨g, cap, cur, rfl, _, hg, _⟩
  · simp [Value.ownBlock] at e
  · simp only [Value.ownBlock, Option.some.injEq] at e
    subst e
    unfold Rep at h
    rw [hg] at h
    simp at h

theorem Rep.set0 {w : World} {b : Nat} {v : Value} {f p x t : Int} (h : Rep w b v f p x t) (u : Value) : Rep (w.setCell ⟨b, 0, none⟩ u) b u f p x t := by
  unfold Rep at *; simp [World.setCell, Array.getElem?_modify, h]
theorem Rep.set1 {w : World} {b : Nat} {v : Value} {f p x t : Int} (h : Rep w b v f p x t) (u : Int) : Rep (w.setCell ⟨b, 1, none⟩ (.int .i64 u)) b v u p x t := by
  unfold Rep at *; simp [World.setCell, Array.getElem?_modify, h]
theorem Rep.set2 {w : World} {b : Nat} {v : Value} {f p x t : Int} (h : Rep w b v f p x t) (u : Int) : Rep (w.setCell ⟨b, 2, none⟩ (.int .i64 u)) b v f u x t := by
  unfold Rep at *; simp [World.setCell, Array.getElem?_modify, h]
theorem Rep.set3 {w : World} {b : Nat} {v : Value} {f p x t : Int} (h : Rep w b v f p x t) (u : Int) : Rep (w.setCell ⟨b, 3, none⟩ (.int .i64 u)) b v f p u t := by
  unfold Rep at *; simp [World.setCell, Array.getElem?_modify, h]
theorem Rep.isT {w : World} {b : Nat} {v : Value} {f p x t : Int} (h : Rep w b v f p x t) : IsT w b 30 := ⟨_, _, h⟩
theorem Rep.keep {w w' : World} {b : Nat} {v : Value} {f p x t : Int} (h : Rep w b v f p x t) (hb : Below w.heap.size w w') : Rep w' b v f p x t :=
  (hb.block b (Array.getElem?_eq_some_iff.1 h).1).trans h

theorem Keep9.grown {w w' : World} {row : Option Nat} (h : w.grownBy w' row) (hr : ∀ g, row = some g → IsT w g 34) : Keep9 w w' := by
  refine ⟨h.size, fun b c hb => ?_⟩
  rw [h.block b (Array.getElem?_eq_some_iff.1 hb).1, hb]
  intro e
  obtain ⟨c', m, hc⟩ := hr b e.symm
  rw [hc] at hb; simp at hb
theorem own_isT {w : World} {B n : Nat} {v : Value} {xs : List Value} (ho : w.ownsRow B 34 8 v n xs) : ∀ g, v.ownBlock = some g → IsT w g 34 ∧ B ≤ g := by
  intro g e
  rcases ho.2 with ⟨rfl, _⟩ | ⟨g', cap, cur, rfl, hB, hg, _⟩
  · simp [Value.ownBlock] at e
  · simp only [Value.ownBlock, Option.some.injEq] at e
    subst e
    exact ⟨⟨cur, _, hg⟩, hB⟩

/-- The two new blocks of a call of Add, behind the counter's step. -/
theorem two_new {W1 : World} {o1 o2 : Obj} : Below W1.heap.size W1 ((W1.alloc o1).alloc o2).drew :=
  (((Below.refl _ _).alloc (Nat.le_refl _) _).alloc (by rw [nblk_alloc]; omega) _).drew

theorem own_two {W1 : World} {o1 o2 : Obj} {B n : Nat} {v : Value} {xs : List Value} (ho : W1.ownsRow B 34 8 v n xs) : ((W1.alloc o1).alloc o2).drew.ownsRow B 34 8 v n xs := ((ho.alloc o1).alloc o2).drew

theorem new_cells (W1 : World) (N : Nat) (hN : N = W1.heap.size) (o1 : Obj) (us : List Value) : ∀ j u, us[j]? = some u → ((W1.alloc o1).alloc (.cells us.toArray 34)).drew.cell? ((⟨N + 1, 0, none⟩ : Addr).add j) = some u := by
  subst hN
  intro j u hj
  have hb : ((W1.alloc o1).alloc (.cells us.toArray 34)).drew.heap[W1.heap.size + 1]? = some (Obj.cells us.toArray 34 (0, 0)) := by
    show (World.alloc _ _).heap[W1.heap.size + 1]? = _
    rw [← nblk_alloc W1 o1]; exact blk_alloc_new _ _
  have hp : (⟨W1.heap.size + 1, 0, none⟩ : Addr).add j = ⟨W1.heap.size + 1, j, none⟩ := by unfold Addr.add; split <;> simp_all
  rw [hp]
  unfold World.cell?
  simp only [hb]
  simpa using hj
theorem one_cells (a b c d e : ByteArray) (i : Int) (p : Bool) (ao : Option Addr) (n cp : Nat) : ∀ u ∈ [Value.string a, .int .i64 i, .string b, .string c, .bool p, .string d, .string e, .slice ao n cp], u.oneCell' = true := by
  intro u hu
  simp only [List.mem_cons, List.not_mem_nil, or_false] at hu
  rcases hu with rfl | rfl | rfl | rfl | rfl | rfl | rfl | rfl <;> rfl

theorem add_end {w W1 w' : World} {RB B n : Nat} {v v' : Value} {f p x t : Int} {xs ys : List Value} {o1 o2 : Obj} (hw : Below B w W1) (hk : Keep9 w W1) (hB : B ≤ RB)
    (hR : Rep W1 RB v f p x t) (ho : W1.ownsRow B 34 8 v n xs) (ho' : w'.ownsRow B 34 8 v' (n + 1) ys) (hg : ((W1.alloc o1).alloc o2).drew.grownBy w' v.ownBlock) :
    Rep w' RB v f p x t ∧ Rep (w'.setCell ⟨RB, 0, none⟩ v') RB v' f p x t ∧ (w'.setCell ⟨RB, 0, none⟩ v').ownsRow B 34 8 v' (n + 1) ys ∧ Below B w (w'.setCell ⟨RB, 0, none⟩ v') ∧ Keep9 w (w'.setCell ⟨RB, 0, none⟩ v') := by
  have h2 : Below W1.heap.size W1 ((W1.alloc o1).alloc o2).drew := two_new
  have hRA := hR.keep h2
  have hoA : ((W1.alloc o1).alloc o2).drew.ownsRow B 34 8 v n xs := own_two ho
  have hne := hRA.ne hoA
  have hlt : RB < W1.heap.size := (Array.getElem?_eq_some_iff.1 hR).1
  have hR' : Rep w' RB v f p x t := by
    unfold Rep at *
    rw [hg.block RB (Array.getElem?_eq_some_iff.1 hRA).1 (fun e => hne e.symm)]; exact hRA
  have hBW : B ≤ W1.heap.size := by omega
  refine ⟨hR', hR'.set0 v', ownsRow_setCell_other ho' (hR'.ne ho') _, ?_, ?_⟩
  · exact ((hw.trans (h2.mono hBW)).grown hg (Nat.le_trans hBW h2.size) (fun k e => (own_isT hoA k e).2)).setCell hB _
  · exact ((hk.trans (Keep9.of_below h2)).trans (Keep9.grown hg (fun g e => (own_isT hoA g e).1))).trans (Keep9.setCell (a := ⟨RB, 0, none⟩) _ hR'.isT (by decide))

theorem cells_one (e : Ent) (ao : Option Addr) (n cp : Nat) (h : e.dv = .slice ao n cp) : e.cells = [.string e.file, .int .i64 e.line, .string e.target, .string e.check, .bool e.pass, .string e.reason, .string e.err, .slice ao n cp] := by
  simp [Ent.cells, h]

set_option maxHeartbeats 1000000 in
theorem add_err (RB B : Nat) (v : Value) (f p x t : Int) (fs : List Ent) (e : Ent) (w : World) (hR : Rep w RB v f p x t) (hown : w.ownsRow B 34 8 v fs.length (ECells fs)) (hB : B ≤ RB)
    (hlen : fs.length ≤ 1000000) (hdv : ∃ (ao : Option Addr) (n cp : Nat), e.dv = .slice ao n cp) (he : e.err.toList.isEmpty = false) :
    Calls Try.prog 8 #[.pointer (some ⟨RB, 0, none⟩), e.agg] w fun y w' => y = .returned (.tuple #[]) ∧ ∃ v', Rep w' RB v' f p (wrap64 (x + 1)) t ∧ w'.ownsRow B 34 8 v' (fs.length + 1) (ECells fs ++ e.cells) ∧ Below B w w' ∧ Keep9 w w' := by
  obtain ⟨ao, n, cp, hdv⟩ := hdv
  rw [cells_one e ao n cp hdv]
  unfold Ent.agg
  rw [hdv]
  clear hdv
  obtain ⟨c0, c1, c2, c3, c4, hz, hlt⟩ := hR.cells
  have hne : RB ≠ w.heap.size := by omega
  obtain ⟨i0, hi, hz0, hs0, hb0⟩ := info_parts Try.info34
  have H1 : Hid (Below B w (w.setCell ⟨RB, 3, none⟩ (.int .i64 (wrap64 (x + 1)))) ∧ Keep9 w (w.setCell ⟨RB, 3, none⟩ (.int .i64 (wrap64 (x + 1)))) ∧ Rep (w.setCell ⟨RB, 3, none⟩ (.int .i64 (wrap64 (x + 1)))) RB v f p (wrap64 (x + 1)) t ∧ (w.setCell ⟨RB, 3, none⟩ (.int .i64 (wrap64 (x + 1)))).ownsRow B 34 8 v fs.length (ECells fs)) :=
    ⟨(Below.refl _ _).setCell hB _, Keep9.setCell (a := ⟨RB, 3, none⟩) _ hR.isT (by decide), hR.set3 _, ownsRow_setCell_other hown (hR.ne hown) _⟩
  have HL : Hid (fs.length ≤ 1000000 ∧ B ≤ w.heap.size ∧ B ≤ RB) := ⟨hlen, by omega, hB⟩
  clear hR hown hlen hB
  go_enter Try.func8, Try.ntmps8
  go_wp2
  go_region_law (refine step_append_own rfl (.tmp 36) (.tmp 38) 27 rfl B 34 i0 zero34 8 120 Try.underlying27 hi hz0 hs0 hb0 rfl (by decide) v fs.length (ECells fs) rfl (by exact own_two H1.out.2.2.2) ⟨w.heap.size + 1, 0, none⟩ 1 1 [.string e.file, .int .i64 e.line, .string e.target, .string e.check, .bool e.pass, .string e.reason, .string e.err, .slice ao n cp] rfl rfl (by exact new_cells (w.setCell ⟨RB, 3, none⟩ (.int .i64 (wrap64 (x + 1)))) _ (nblk_setCell _ _ _).symm _ _) (one_cells _ _ _ _ _ _ _ _ _ _) (by have := HL.out.1; unfold maxLen; omega) (by have := HL.out.1; omega) (by have := HL.out.2.1; simp; omega) ?_; intro v' w' ho' hg'; obtain ⟨g, cap', hv'⟩ := Joins.ownsRow_form ho' (by omega); subst hv'; have HE := add_end H1.out.1 H1.out.2.1 HL.out.2.2 H1.out.2.2.1 H1.out.2.2.2 ho' hg'; obtain ⟨q1, -, -, -, -, q6, -⟩ := HE.1.cells; have HF : Hid (_ ∧ _) := HE; clear HE ho' hg')
  all_goals
    go_wp2
    go_end0
    exact ⟨rfl, _, HF.out.2⟩

set_option maxHeartbeats 1000000 in
theorem add_pass (RB B : Nat) (v : Value) (f p x t : Int) (fs : List Ent) (e : Ent) (w : World) (hR : Rep w RB v f p x t) (hown : w.ownsRow B 34 8 v fs.length (ECells fs)) (hB : B ≤ RB)
    (hlen : fs.length ≤ 1000000) (hdv : ∃ (ao : Option Addr) (n cp : Nat), e.dv = .slice ao n cp) (he : e.err.toList.isEmpty = true) (hp : e.pass = true) :
    Calls Try.prog 8 #[.pointer (some ⟨RB, 0, none⟩), e.agg] w fun y w' => y = .returned (.tuple #[]) ∧ ∃ v', Rep w' RB v' f (wrap64 (p + 1)) x t ∧ w'.ownsRow B 34 8 v' (fs.length + 1) (ECells fs ++ e.cells) ∧ Below B w w' ∧ Keep9 w w' := by
  obtain ⟨ao, n, cp, hdv⟩ := hdv
  rw [cells_one e ao n cp hdv]
  unfold Ent.agg
  rw [hdv, hp]
  clear hdv hp
  obtain ⟨c0, c1, c2, c3, c4, hz, hlt⟩ := hR.cells
  have hne : RB ≠ w.heap.size := by omega
  obtain ⟨i0, hi, hz0, hs0, hb0⟩ := info_parts Try.info34
  have H1 : Hid (Below B w (w.setCell ⟨RB, 2, none⟩ (.int .i64 (wrap64 (p + 1)))) ∧ Keep9 w (w.setCell ⟨RB, 2, none⟩ (.int .i64 (wrap64 (p + 1)))) ∧ Rep (w.setCell ⟨RB, 2, none⟩ (.int .i64 (wrap64 (p + 1)))) RB v f (wrap64 (p + 1)) x t ∧ (w.setCell ⟨RB, 2, none⟩ (.int .i64 (wrap64 (p + 1)))).ownsRow B 34 8 v fs.length (ECells fs)) :=
    ⟨(Below.refl _ _).setCell hB _, Keep9.setCell (a := ⟨RB, 2, none⟩) _ hR.isT (by decide), hR.set2 _, ownsRow_setCell_other hown (hR.ne hown) _⟩
  have HL : Hid (fs.length ≤ 1000000 ∧ B ≤ w.heap.size ∧ B ≤ RB) := ⟨hlen, by omega, hB⟩
  clear hR hown hlen hB
  go_enter Try.func8, Try.ntmps8
  go_wp2
  go_region_law (refine step_append_own rfl (.tmp 36) (.tmp 38) 27 rfl B 34 i0 zero34 8 120 Try.underlying27 hi hz0 hs0 hb0 rfl (by decide) v fs.length (ECells fs) rfl (by exact own_two H1.out.2.2.2) ⟨w.heap.size + 1, 0, none⟩ 1 1 [.string e.file, .int .i64 e.line, .string e.target, .string e.check, .bool true, .string e.reason, .string e.err, .slice ao n cp] rfl rfl (by exact new_cells (w.setCell ⟨RB, 2, none⟩ (.int .i64 (wrap64 (p + 1)))) _ (nblk_setCell _ _ _).symm _ _) (one_cells _ _ _ _ _ _ _ _ _ _) (by have := HL.out.1; unfold maxLen; omega) (by have := HL.out.1; omega) (by have := HL.out.2.1; simp; omega) ?_; intro v' w' ho' hg'; obtain ⟨g, cap', hv'⟩ := Joins.ownsRow_form ho' (by omega); subst hv'; have HE := add_end H1.out.1 H1.out.2.1 HL.out.2.2 H1.out.2.2.1 H1.out.2.2.2 ho' hg'; obtain ⟨q1, -, -, -, -, q6, -⟩ := HE.1.cells; have HF : Hid (_ ∧ _) := HE; clear HE ho' hg')
  all_goals
    go_wp2
    go_end0
    exact ⟨rfl, _, HF.out.2⟩

set_option maxHeartbeats 1000000 in
theorem add_fail (RB B : Nat) (v : Value) (f p x t : Int) (fs : List Ent) (e : Ent) (w : World) (hR : Rep w RB v f p x t) (hown : w.ownsRow B 34 8 v fs.length (ECells fs)) (hB : B ≤ RB)
    (hlen : fs.length ≤ 1000000) (hdv : ∃ (ao : Option Addr) (n cp : Nat), e.dv = .slice ao n cp) (he : e.err.toList.isEmpty = true) (hp : e.pass = false) :
    Calls Try.prog 8 #[.pointer (some ⟨RB, 0, none⟩), e.agg] w fun y w' => y = .returned (.tuple #[]) ∧ ∃ v', Rep w' RB v' (wrap64 (f + 1)) p x t ∧ w'.ownsRow B 34 8 v' (fs.length + 1) (ECells fs ++ e.cells) ∧ Below B w w' ∧ Keep9 w w' := by
  obtain ⟨ao, n, cp, hdv⟩ := hdv
  rw [cells_one e ao n cp hdv]
  unfold Ent.agg
  rw [hdv, hp]
  clear hdv hp
  obtain ⟨c0, c1, c2, c3, c4, hz, hlt⟩ := hR.cells
  have hne : RB ≠ w.heap.size := by omega
  obtain ⟨i0, hi, hz0, hs0, hb0⟩ := info_parts Try.info34
  have H1 : Hid (Below B w (w.setCell ⟨RB, 1, none⟩ (.int .i64 (wrap64 (f + 1)))) ∧ Keep9 w (w.setCell ⟨RB, 1, none⟩ (.int .i64 (wrap64 (f + 1)))) ∧ Rep (w.setCell ⟨RB, 1, none⟩ (.int .i64 (wrap64 (f + 1)))) RB v (wrap64 (f + 1)) p x t ∧ (w.setCell ⟨RB, 1, none⟩ (.int .i64 (wrap64 (f + 1)))).ownsRow B 34 8 v fs.length (ECells fs)) :=
    ⟨(Below.refl _ _).setCell hB _, Keep9.setCell (a := ⟨RB, 1, none⟩) _ hR.isT (by decide), hR.set1 _, ownsRow_setCell_other hown (hR.ne hown) _⟩
  have HL : Hid (fs.length ≤ 1000000 ∧ B ≤ w.heap.size ∧ B ≤ RB) := ⟨hlen, by omega, hB⟩
  clear hR hown hlen hB
  go_enter Try.func8, Try.ntmps8
  go_wp2
  go_region_law (refine step_append_own rfl (.tmp 36) (.tmp 38) 27 rfl B 34 i0 zero34 8 120 Try.underlying27 hi hz0 hs0 hb0 rfl (by decide) v fs.length (ECells fs) rfl (by exact own_two H1.out.2.2.2) ⟨w.heap.size + 1, 0, none⟩ 1 1 [.string e.file, .int .i64 e.line, .string e.target, .string e.check, .bool false, .string e.reason, .string e.err, .slice ao n cp] rfl rfl (by exact new_cells (w.setCell ⟨RB, 1, none⟩ (.int .i64 (wrap64 (f + 1)))) _ (nblk_setCell _ _ _).symm _ _) (one_cells _ _ _ _ _ _ _ _ _ _) (by have := HL.out.1; unfold maxLen; omega) (by have := HL.out.1; omega) (by have := HL.out.2.1; simp; omega) ?_; intro v' w' ho' hg'; obtain ⟨g, cap', hv'⟩ := Joins.ownsRow_form ho' (by omega); subst hv'; have HE := add_end H1.out.1 H1.out.2.1 HL.out.2.2 H1.out.2.2.1 H1.out.2.2.2 ho' hg'; obtain ⟨q1, -, -, -, -, q6, -⟩ := HE.1.cells; have HF : Hid (_ ∧ _) := HE; clear HE ho' hg')
  all_goals
    go_wp2
    go_end0
    exact ⟨rfl, _, HF.out.2⟩

theorem empty_iff (s : ByteArray) : s.toList.isEmpty = decide (s.size = 0) := by
  rw [Lib.toList_data, Lib.size_eq]; cases s.data.toList <;> simp

/-- The counters behind one Add. -/
def stepF (e : Ent) (f : Int) : Int := if e.isErr || e.isPass then f else wrap64 (f + 1)
def stepP (e : Ent) (p : Int) : Int := if e.isPass then wrap64 (p + 1) else p
def stepX (e : Ent) (x : Int) : Int := if e.isErr then wrap64 (x + 1) else x

theorem add_any (RB B : Nat) (v : Value) (f p x t : Int) (fs : List Ent) (e : Ent) (w : World) (hR : Rep w RB v f p x t) (hown : w.ownsRow B 34 8 v fs.length (ECells fs)) (hB : B ≤ RB)
    (hlen : fs.length ≤ 1000000) (hdv : ∃ (ao : Option Addr) (n cp : Nat), e.dv = .slice ao n cp) :
    Calls Try.prog 8 #[.pointer (some ⟨RB, 0, none⟩), e.agg] w fun y w' => y = .returned (.tuple #[]) ∧ ∃ v', Rep w' RB v' (stepF e f) (stepP e p) (stepX e x) t ∧ w'.ownsRow B 34 8 v' (fs.length + 1) (ECells fs ++ e.cells) ∧ Below B w w' ∧ Keep9 w w' := by
  by_cases h : 0 < e.err.size
  · have h1 : e.isErr = true := decide_eq_true h
    have h2 : e.isPass = false := by simp [Ent.isPass, h1]
    have := add_err RB B v f p x t fs e w hR hown hB hlen hdv (by rw [empty_iff]; exact decide_eq_false (by omega))
    simpa [stepF, stepP, stepX, h1, h2] using this
  · have h1 : e.isErr = false := decide_eq_false h
    have he : e.err.toList.isEmpty = true := by rw [empty_iff]; exact decide_eq_true (by omega)
    cases hp : e.pass
    · have h2 : e.isPass = false := by simp [Ent.isPass, hp]
      have := add_fail RB B v f p x t fs e w hR hown hB hlen hdv he hp
      simpa [stepF, stepP, stepX, h1, h2] using this
    · have h2 : e.isPass = true := by simp [Ent.isPass, hp, h1]
      have := add_pass RB B v f p x t fs e w hR hown hB hlen hdv he hp
      simpa [stepF, stepP, stepX, h1, h2] using this
end Go.Proofs.Qxb6630645a

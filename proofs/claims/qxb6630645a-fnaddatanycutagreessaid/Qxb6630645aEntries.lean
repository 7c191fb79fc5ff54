/-
  zzToEntriesB1.
-/
import Derived.Test.Qxb6630645aClone
namespace Go.Proofs.Qxb6630645a
open Go.ChangeShapes Go.WideShapes Go.ChangeAt Go.RowKit
open Go.Deep

def zero34 : Value := .agg #[.string ByteArray.empty, .int .i64 0, .string ByteArray.empty, .string ByteArray.empty, .bool false, .string ByteArray.empty, .string ByteArray.empty, .slice none 0 0]
theorem Try.info34 : (Try.prog.info? 34).map (fun i => (i.zero, i.size, i.bytes)) = some (some zero34, 8, 120) := by kernel_rfl

/-- The eight cells as a list. -/
def Ent.cells (e : Ent) : List Value := [.string e.file, .int .i64 e.line, .string e.target, .string e.check, .bool e.pass, .string e.reason, .string e.err, e.dv]
/-- The cells of entries that lie behind one another. -/
def ECells (es : List Ent) : List Value := es.flatMap Ent.cells

/-- f is e, its details cloned. -/
def Tw (w : World) (e f : Ent) : Prop := f = { e with dv := f.dv } ∧ (f.dv = .slice none 0 0 ↔ e.dv = .slice none 0 0) ∧ Clone w f.dv f.dl
/-- .. each of a list. -/
def Twin (w : World) (es fs : List Ent) : Prop := ∀ i, i < fs.length → Tw w (es.getD i ent0) (fs.getD i ent0)

/-- What make lays. -/
def row34 (n : Nat) : Array Value := madeCells zero34.cells (n * 8)
theorem size_row34 (n : Nat) : (row34 n).size = n * 8 := size_madeCells _ _
theorem make34 (n : Nat) (hn : n ≤ 131072) (w : World) :
    (Instr.makeSlice 27 (.int .i64 (n : Int)) (.int .i64 (n : Int))).run Try.prog w = .ok (.slice (some ⟨w.heap.size, 0, none⟩) n n) (w.alloc (.cells (row34 n) 34)) := by
  obtain ⟨i, hi, hzz⟩ := Option.map_eq_some_iff.1 Try.info34
  simp only [Prod.mk.injEq] at hzz
  obtain ⟨hz, hs, hb⟩ := hzz
  have hr := run_make (P := Try.prog) w 27 34 i zero34 Try.underlying27 hi hz .i64 .i64 n n (by omega) (Int.le_refl _) (by rw [hb]; omega) (by omega)
  simp only [Int.toNat_natCast, hs] at hr
  exact hr

/-- Block g is the row cur. -/
def Row34 (w : World) (g : Nat) (cur : Array Value) : Prop := w.heap[g]? = some (Obj.cells cur 34 (0, 0))
theorem here {w w1 : World} {g : Nat} {cur : Array Value} (h : w.heap[g]? = some (Obj.cells cur 34 (0, 0))) (hb : Below w.heap.size w w1) : Row34 w1 g cur :=
  (hb.block g (Array.getElem?_eq_some_iff.1 h).1).trans h
theorem Row34.cellAt {w : World} {g : Nat} {cur : Array Value} (h : Row34 w g cur) {i : Nat} (hi : i < cur.size) : w.cell? ⟨g, i, none⟩ = some (cur.getD i undef) := by
  unfold Row34 at h
  simp [World.cell?, h, Array.getD, hi]
theorem Row34.free {w : World} {g : Nat} {cur : Array Value} (h : Row34 w g cur) : ∀ i, w.frozen? ⟨g, i, none⟩ = false := by
  intro i; unfold Row34 at h; simp [World.frozen?, h]

theorem Row34.set {w : World} {g : Nat} {cur : Array Value} (h : Row34 w g cur) (o : Nat) (u : Value) : Row34 (w.setCell ⟨g, o, none⟩ u) g (cur.setIfInBounds o u) := by
  unfold Row34 at *
  simp [World.setCell, Array.getElem?_modify, h]
theorem Tw.keep {w w' : World} {e f : Ent} (h : Tw w e f) (k : Keep9 w w') : Tw w' e f := ⟨h.1, h.2.1, h.2.2.keep k⟩
theorem Twin.keep {w w' : World} {es fs : List Ent} (h : Twin w es fs) (k : Keep9 w w') : Twin w' es fs := fun i hi => (h i hi).keep k
theorem Twin.snoc {w : World} {es fs : List Ent} {f : Ent} (h : Twin w es fs) (hf : Tw w (es.getD fs.length ent0) f) : Twin w es (fs ++ [f]) := by
  intro i hi
  by_cases e : i < fs.length
  · have : (fs ++ [f]).getD i ent0 = fs.getD i ent0 := by simp [List.getD, List.getElem?_append_left e]
    rw [this]; exact h i e
  · obtain rfl : i = fs.length := by simp at hi; omega
    have : (fs ++ [f]).getD fs.length ent0 = f := by simp [List.getD]
    rw [this]; exact hf
theorem ECells_snoc (fs : List Ent) (f : Ent) : ECells (fs ++ [f]) = ECells fs ++ f.cells := by simp [ECells]
theorem ECells_length (fs : List Ent) : (ECells fs).length = fs.length * 8 := by
  induction fs with
  | nil => rfl
  | cons f fs ih => simp only [ECells, List.flatMap_cons, List.length_append, List.length_cons] at *; rw [ih]; simp [Ent.cells]; omega

theorem take8 (cur : Array Value) (k : Nat) (L : List Value) (u0 u1 u2 u3 u4 u5 u6 u7 : Value) (hL : cur.toList.take (k * 8) = L) (hz : k * 8 + 7 < cur.size) :
    ((((((((cur.setIfInBounds (k * 8) u0).setIfInBounds (k * 8 + 1) u1).setIfInBounds (k * 8 + 2) u2).setIfInBounds (k * 8 + 3) u3).setIfInBounds (k * 8 + 4) u4).setIfInBounds (k * 8 + 5) u5).setIfInBounds (k * 8 + 6) u6).setIfInBounds (k * 8 + 7) u7).toList.take ((k + 1) * 8) = L ++ [u0, u1, u2, u3, u4, u5, u6, u7] := by
  have hl : L.length = k * 8 := by rw [← hL]; simp; omega
  apply List.ext_getElem?
  intro i
  rw [List.getElem?_take]
  by_cases h1 : i < (k + 1) * 8
  · rw [if_pos h1]
    by_cases h2 : i < k * 8
    · rw [List.getElem?_append_left (by omega), ← hL, List.getElem?_take, if_pos h2]
      simp only [Array.getElem?_toList, Array.getElem?_setIfInBounds, Array.size_setIfInBounds]
      rw [if_neg (by omega), if_neg (by omega), if_neg (by omega), if_neg (by omega), if_neg (by omega), if_neg (by omega), if_neg (by omega), if_neg (by omega)]
    · rw [List.getElem?_append_right (by omega), hl]
      obtain ⟨r, rfl⟩ : ∃ r, i = k * 8 + r := ⟨i - k * 8, by omega⟩
      rw [Nat.add_sub_cancel_left]
      simp only [Array.getElem?_toList, Array.getElem?_setIfInBounds, Array.size_setIfInBounds]
      have hr : r = 0 ∨ r = 1 ∨ r = 2 ∨ r = 3 ∨ r = 4 ∨ r = 5 ∨ r = 6 ∨ r = 7 := by omega
      rcases hr with rfl | rfl | rfl | rfl | rfl | rfl | rfl | rfl
      · rw [if_neg (by omega), if_neg (by omega), if_neg (by omega), if_neg (by omega), if_neg (by omega), if_neg (by omega), if_neg (by omega), if_pos (by omega), if_pos (by omega)]; rfl
      · rw [if_neg (by omega), if_neg (by omega), if_neg (by omega), if_neg (by omega), if_neg (by omega), if_neg (by omega), if_pos (by omega), if_pos (by omega)]; rfl
      · rw [if_neg (by omega), if_neg (by omega), if_neg (by omega), if_neg (by omega), if_neg (by omega), if_pos (by omega), if_pos (by omega)]; rfl
      · rw [if_neg (by omega), if_neg (by omega), if_neg (by omega), if_neg (by omega), if_pos (by omega), if_pos (by omega)]; rfl
      · rw [if_neg (by omega), if_neg (by omega), if_neg (by omega), if_pos (by omega), if_pos (by omega)]; rfl
      · rw [if_neg (by omega), if_neg (by omega), if_pos (by omega), if_pos (by omega)]; rfl
      · rw [if_neg (by omega), if_pos (by omega), if_pos (by omega)]; rfl
      · rw [if_pos (by omega), if_pos (by omega)]; rfl
  · rw [if_neg h1, List.getElem?_eq_none (by simp [hl]; omega)]

theorem Row34.isT {w : World} {g : Nat} {cur : Array Value} (h : Row34 w g cur) : IsT w g 34 := ⟨cur, _, h⟩

theorem ent_step {w wr w1 : World} {es fs : List Ent} {k : Nat} {cur : Array Value} {e : Ent} {v' : Value} {ao : Option Addr} {n cp : Nat} (hk : k < es.length)
    (HR : fs.length = k ∧ Twin wr es fs ∧ wr.heap[w.heap.size]? = some (Obj.cells cur 34 (0, 0)) ∧ cur.size = es.length * 8 ∧ cur.toList.take (k * 8) = ECells fs ∧ Below w.heap.size w wr)
    (HX : v' = .slice ao n cp ∧ (v' = .slice none 0 0 ↔ e.dv = .slice none 0 0) ∧ Clone w1 v' e.dl ∧ Below wr.heap.size wr w1) (HE : e = es.getD k ent0) :
    ∃ (fs' : List Ent) (cur' : Array Value), Hid (fs'.length = k + 1 ∧ Twin ((((((((w1.setCell ⟨w.heap.size, k * 8, none⟩ (.string e.file)).setCell ⟨w.heap.size, k * 8 + 1, none⟩ (.int .i64 e.line)).setCell ⟨w.heap.size, k * 8 + 2, none⟩ (.string e.target)).setCell ⟨w.heap.size, k * 8 + 3, none⟩ (.string e.check)).setCell ⟨w.heap.size, k * 8 + 4, none⟩ (.bool e.pass)).setCell ⟨w.heap.size, k * 8 + 5, none⟩ (.string e.reason)).setCell ⟨w.heap.size, k * 8 + 6, none⟩ (.string e.err)).setCell ⟨w.heap.size, k * 8 + 7, none⟩ (.slice ao n cp)) es fs' ∧
      ((((((((w1.setCell ⟨w.heap.size, k * 8, none⟩ (.string e.file)).setCell ⟨w.heap.size, k * 8 + 1, none⟩ (.int .i64 e.line)).setCell ⟨w.heap.size, k * 8 + 2, none⟩ (.string e.target)).setCell ⟨w.heap.size, k * 8 + 3, none⟩ (.string e.check)).setCell ⟨w.heap.size, k * 8 + 4, none⟩ (.bool e.pass)).setCell ⟨w.heap.size, k * 8 + 5, none⟩ (.string e.reason)).setCell ⟨w.heap.size, k * 8 + 6, none⟩ (.string e.err)).setCell ⟨w.heap.size, k * 8 + 7, none⟩ (.slice ao n cp)).heap[w.heap.size]? = some (Obj.cells cur' 34 (0, 0)) ∧
      cur'.size = es.length * 8 ∧ cur'.toList.take ((k + 1) * 8) = ECells fs' ∧
      Below w.heap.size w ((((((((w1.setCell ⟨w.heap.size, k * 8, none⟩ (.string e.file)).setCell ⟨w.heap.size, k * 8 + 1, none⟩ (.int .i64 e.line)).setCell ⟨w.heap.size, k * 8 + 2, none⟩ (.string e.target)).setCell ⟨w.heap.size, k * 8 + 3, none⟩ (.string e.check)).setCell ⟨w.heap.size, k * 8 + 4, none⟩ (.bool e.pass)).setCell ⟨w.heap.size, k * 8 + 5, none⟩ (.string e.reason)).setCell ⟨w.heap.size, k * 8 + 6, none⟩ (.string e.err)).setCell ⟨w.heap.size, k * 8 + 7, none⟩ (.slice ao n cp))) := by
  obtain ⟨r1, r2, r3, r4, r5, r6⟩ := HR
  obtain ⟨rfl, x2, x3, x4⟩ := HX
  have g0 : Row34 w1 w.heap.size cur := here r3 x4
  have g8 := (((((((g0.set (k * 8) (.string e.file)).set (k * 8 + 1) (.int .i64 e.line)).set (k * 8 + 2) (.string e.target)).set (k * 8 + 3) (.string e.check)).set (k * 8 + 4) (.bool e.pass)).set (k * 8 + 5) (.string e.reason)).set (k * 8 + 6) (.string e.err)).set (k * 8 + 7) (.slice ao n cp)
  have hk9 := K9.refl g0.isT
  have hk9 := ((((((((hk9.set (by decide) (k * 8) (.string e.file)).set (by decide) (k * 8 + 1) (.int .i64 e.line)).set (by decide) (k * 8 + 2) (.string e.target)).set (by decide) (k * 8 + 3) (.string e.check)).set (by decide) (k * 8 + 4) (.bool e.pass)).set (by decide) (k * 8 + 5) (.string e.reason)).set (by decide) (k * 8 + 6) (.string e.err)).set (by decide) (k * 8 + 7) (.slice ao n cp)).1
  refine ⟨fs ++ [{ e with dv := .slice ao n cp }], _, by simp [r1], ?_, g8, by simp [r4], ?_, ?_⟩
  · refine Twin.snoc (r2.keep ((Keep9.of_below x4).trans hk9)) ?_
    rw [r1, ← HE]
    exact ⟨rfl, x2, x3.keep hk9⟩
  · rw [ECells_snoc]
    exact take8 cur k _ _ _ _ _ _ _ _ _ r5 (by omega)
  · exact ((((((((r6.trans (x4.mono r6.size)).setCell (Nat.le_refl _) _).setCell (Nat.le_refl _) _).setCell (Nat.le_refl _) _).setCell (Nat.le_refl _) _).setCell (Nat.le_refl _) _).setCell (Nat.le_refl _) _).setCell (Nat.le_refl _) _).setCell (Nat.le_refl _) _

set_option maxHeartbeats 1000000 in
theorem toEntries (v : Value) (es : List Ent) (w : World) (hE : Ents w v es) (hn : es.length ≤ 131072) (hd : ∀ i, i < es.length → (es.getD i ent0).dl.length ≤ 131072) :
    Calls Try.prog 7 #[v] w fun x w' => ∃ v' fs, x = .returned v' ∧ fs.length = es.length ∧ Twin w' es fs ∧ w'.ownsRow w.heap.size 34 8 v' fs.length (ECells fs) ∧ Below w.heap.size w w' := by
  have q22 : ∀ (w : World) (a : Option Addr) (n c n' c' : Nat), (binOp .eql 22 (.slice a n c) (.slice none n' c')).run Try.prog w = .ok (.bool a.isNone) w := fun w a n c n' c' => Lib.run_eql_slice_nil w _ _ a n c n' c' Try.underlying22
  obtain ⟨ao, cap, rfl, hl, hno, hc⟩ := hE.shape
  have HO : Hid (∀ e ∈ es, EntOk w e) := hE.2
  have HD : Hid (∀ i, i < es.length → (es.getD i ent0).dl.length ≤ 131072) := hd
  clear hE hl hd
  cases ao with
  | none =>
    obtain ⟨rfl, rfl⟩ := hno rfl
    clear hc hno
    go_enter Try.func7, Try.ntmps7
    go_wp2
    go_ret
    exact ⟨_, [], rfl, rfl, fun i hi => absurd hi (Nat.not_lt_zero _), World.ownsRow_nil _ _ _ _, Below.refl _ _⟩
  | some a =>
    clear hno
    have hmk := make34 es.length hn
    have HC : Hid (0 < es.length → ∃ b off, some a = some ⟨b, off, none⟩ ∧ ERow w b off es) := hc
    clear hc
    go_enter Try.func7, Try.ntmps7
    go_wp2
    clear hmk q22
    go_loopw [4] (fun i wr => ∃ k : Nat, k ≤ es.length ∧ i = .int .i64 k ∧ ∃ (fs : List Ent) (cur : Array Value), Hid (fs.length = k ∧ Twin wr es fs ∧ wr.heap[w.heap.size]? = some (Obj.cells cur 34 (0, 0)) ∧ cur.size = es.length * 8 ∧ cur.toList.take (k * 8) = ECells fs ∧ Below w.heap.size w wr)) (fun i _ => es.length - (intOf i).toNat)
    case atStart => exact ⟨0, Nat.zero_le _, rfl, [], _, rfl, fun i hi => absurd hi (Nat.not_lt_zero _), blk_alloc_new _ _, size_row34 _, rfl, (Below.refl _ _).alloc (Nat.le_refl _) _⟩
    case round =>
      obtain ⟨k, hk, rfl, fs, cur, HR⟩ := hrel
      by_cases hlt : k < es.length
      · obtain ⟨b, off, ha, hr⟩ := HC.out (by omega)
        simp only [Option.some.injEq] at ha
        subst ha
        have hbel := HR.out.2.2.2.2.2
        have hat := (hr.2 k hlt).keepB hr.1 hbel
        have HE : Hid (EntOk wr (es.getD k ent0)) := (HO.out _ (by simp [List.getD, hlt])).keep hbel
        have HDk : Hid ((es.getD k ent0).dl.length ≤ 131072) := HD.out k hlt
        clear hr HC hbel
        obtain ⟨e, he⟩ : ∃ e, e = es.getD k ent0 := ⟨_, rfl⟩
        rw [← he] at hat HE HDk
        have HEE : Hid (e = es.getD k ent0) := he
        clear he
        obtain ⟨c0, c1, c2, c3, c4, c5, c6, c7⟩ := hat
        have hcz : k * 8 + 7 < cur.size := by rw [HR.out.2.2.2.1]; omega
        go_wp2_with (go_at_call 9; refine (toEntry e _ HE.out HDk.out).mono ?_; rintro x w1 ⟨v', rfl, hnil, hcl, hb1⟩; obtain ⟨ao, n, cp, hv⟩ := hcl.form; have hg := here HR.out.2.2.1 hb1; have h0 := hg.cellAt (i := k * 8) (by omega); have h1 := hg.cellAt (i := k * 8 + 1) (by omega); have h2 := hg.cellAt (i := k * 8 + 2) (by omega); have h3 := hg.cellAt (i := k * 8 + 3) (by omega); have h4 := hg.cellAt (i := k * 8 + 4) (by omega); have h5 := hg.cellAt (i := k * 8 + 5) (by omega); have h6 := hg.cellAt (i := k * 8 + 6) (by omega); have h7 := hg.cellAt (i := k * 8 + 7) (by omega); have hfz := hg.free; have HX : Hid (v' = .slice ao n cp ∧ (v' = .slice none 0 0 ↔ e.dv = .slice none 0 0) ∧ Clone w1 v' e.dl ∧ Below wr.heap.size wr w1) := ⟨hv, hnil, hcl, hb1⟩; rw [hv]; simp only [Ent.agg]; clear hnil hcl hb1 hv hg)
        go_roundw
        case rel => exact ⟨k + 1, by omega, by go_num, ent_step (by omega) HR.out HX.out HEE.out⟩
        case measure => simp [intOf]; omega
      · obtain rfl : k = es.length := by omega
        have HN : Hid (es.length ≤ 131072) := hn
        go_wp2
        go_ret
        obtain ⟨r1, r2, r3, r4, r5, r6⟩ := HR.out
        refine ⟨_, fs, rfl, r1, r2, ⟨ECells_length fs, .inr ⟨w.heap.size, es.length, cur, ?_, Nat.le_refl _, r3, ?_, ?_, r4, ?_⟩⟩, r6⟩
        · rw [r1]; rfl
        · rw [r1]; exact Nat.le_refl _
        · have := HN.out; unfold maxLen; omega
        · rw [r1]; exact r5
end Go.Proofs.Qxb6630645a

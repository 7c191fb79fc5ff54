/-
  zzCloneStringsB1, zzToEntryB1, zzToEntriesB1.
-/
import Derived.Test.Qxb6630645aBase
import Derived.Lib.SmallJoins
import Derived.Deep.RegionHeld
namespace Go.Proofs.Qxb6630645a
open Go.ChangeShapes Go.WideShapes Go.ChangeAt Go.RowKit
open Go.Deep

theorem Try.info9 : (Try.prog.info? 9).map (fun i => (i.zero, i.size, i.bytes)) = some (some (.string ByteArray.empty), 1, 16) := by kernel_rfl

/-- The slice value v reads in w as the strings ss, in a row of strings that begins a block of its own, or is nil. -/
def Clone (w : World) (v : Value) (ss : List ByteArray) : Prop :=
  (v = .slice none 0 0 ∧ ss = []) ∨ ∃ (g : Nat) (c : Array Value), v = .slice (some ⟨g, 0, none⟩) ss.length ss.length ∧ ss.length ≤ 131072 ∧
    w.heap[g]? = some (.cells c 9 (0, 0)) ∧ ∀ i, i < ss.length → c[i]? = some (.string (ss.getD i .empty))

/-- Every row of strings stands as it stood. -/
def Keep9 (w w' : World) : Prop := w.heap.size ≤ w'.heap.size ∧ ∀ (b : Nat) (c : Array Value), w.heap[b]? = some (Obj.cells c 9 (0, 0)) → w'.heap[b]? = some (Obj.cells c 9 (0, 0))

theorem Keep9.refl (w : World) : Keep9 w w := ⟨Nat.le_refl _, fun _ _ h => h⟩
theorem Keep9.trans {a b c : World} (h : Keep9 a b) (k : Keep9 b c) : Keep9 a c := ⟨Nat.le_trans h.1 k.1, fun _ _ x => k.2 _ _ (h.2 _ _ x)⟩
theorem Keep9.of_below {w w' : World} (h : Below w.heap.size w w') : Keep9 w w' :=
  ⟨h.size, fun b _ hb => (h.block b (Array.getElem?_eq_some_iff.1 hb).1).trans hb⟩
/-- Block b is a row of type t. -/
def IsT (w : World) (b : Nat) (t : TypeId) : Prop := ∃ (c : Array Value) (m : Nat × Nat), w.heap[b]? = some (Obj.cells c t m)
theorem IsT.setCell {w : World} {b : Nat} {t : TypeId} (h : IsT w b t) (a : Addr) (v : Value) : IsT (w.setCell a v) b t := by
  obtain ⟨c, m, h⟩ := h
  by_cases e : b = a.block
  · subst e
    cases hs : a.spot with
    | none => exact ⟨c.setIfInBounds a.off v, m, by simp [World.setCell, Array.getElem?_modify, h, hs]⟩
    | some s => exact ⟨c, m, by simp [World.setCell, Array.getElem?_modify, h, hs]⟩
  · exact ⟨c, m, (blk_setCell_other _ _ _ _ e).trans h⟩
theorem IsT.alloc {w : World} {b : Nat} {t : TypeId} (h : IsT w b t) (o : Obj) : IsT (w.alloc o) b t := by
  obtain ⟨c, m, h⟩ := h
  exact ⟨c, m, (blk_alloc_lt _ _ _ (Array.getElem?_eq_some_iff.1 h).1).trans h⟩
theorem IsT.below {w w' : World} {b : Nat} {t : TypeId} (h : IsT w b t) (hb : Below w.heap.size w w') : IsT w' b t := by
  obtain ⟨c, m, h⟩ := h
  exact ⟨c, m, (hb.block b (Array.getElem?_eq_some_iff.1 h).1).trans h⟩
theorem Keep9.setCell {w : World} {a : Addr} {t : TypeId} (v : Value) (h : IsT w a.block t) (ht : t ≠ 9) : Keep9 w (w.setCell a v) := by
  refine ⟨by rw [nblk_setCell]; exact Nat.le_refl _, fun b c hb => ?_⟩
  by_cases e : b = a.block
  · subst e; obtain ⟨c', m, h⟩ := h; rw [h] at hb; simp at hb; exact absurd hb.2.1 ht
  · exact (blk_setCell_other _ _ _ _ e).trans hb
/-- Rows of strings kept; block b still a row of type t. -/
def K9 (b : Nat) (t : TypeId) (w w' : World) : Prop := Keep9 w w' ∧ IsT w' b t
theorem K9.refl {w : World} {b : Nat} {t : TypeId} (h : IsT w b t) : K9 b t w w := ⟨Keep9.refl w, h⟩
theorem K9.set {w w' : World} {b : Nat} {t : TypeId} (ht : t ≠ 9) (h : K9 b t w w') (o : Nat) (v : Value) : K9 b t w (w'.setCell ⟨b, o, none⟩ v) :=
  ⟨h.1.trans (Keep9.setCell (a := ⟨b, o, none⟩) v h.2 ht), h.2.setCell _ _⟩
theorem Clone.keep {w w' : World} {v : Value} {ss : List ByteArray} (h : Clone w v ss) (k : Keep9 w w') : Clone w' v ss := by
  rcases h with h | ⟨g, c, hv, hl, hg, hc⟩
  · exact .inl h
  · exact .inr ⟨g, c, hv, hl, k.2 _ _ hg, hc⟩
theorem Clone.strs {w : World} {v : Value} {ss : List ByteArray} (h : Clone w v ss) : Strs w v ss := by
  rcases h with h | ⟨g, c, hv, hl, hg, hc⟩
  · exact .inl h
  · refine .inr ⟨_, _, hv, by unfold maxLen; omega, .inr ⟨g, 0, rfl, (Array.getElem?_eq_some_iff.1 hg).1, fun i hi => ?_⟩⟩
    simp [World.cell?, hg, hc i hi]

theorem set_step (ss : List ByteArray) (c : Array Value) (k : Nat) (v : ByteArray) (hk : k < c.size) (hf : ∀ j, j < k → c[j]? = some (.string (ss.getD j .empty))) (hv : v = ss.getD k .empty) :
    ∀ j, j < k + 1 → (c.setIfInBounds k (.string v))[j]? = some (.string (ss.getD j .empty)) := by
  intro j hj
  rw [Array.getElem?_setIfInBounds]
  by_cases e : k = j
  · subst e; simp [hk, hv]
  · rw [if_neg e]; exact hf j (by omega)

set_option maxHeartbeats 400000 in
theorem clone_any (v : Value) (ss : List ByteArray) (w : World) (hS : Strs w v ss) (hn : ss.length ≤ 131072) :
    Calls Try.prog 18 #[v] w fun x w' => ∃ v', x = .returned v' ∧ (v' = .slice none 0 0 ↔ v = .slice none 0 0) ∧ Clone w' v' ss ∧ Below w.heap.size w w' := by
  have q32 : ∀ (w : World) (a : Option Addr) (n c n' c' : Nat), (binOp .eql 32 (.slice a n c) (.slice none n' c')).run Try.prog w = .ok (.bool a.isNone) w := fun w a n c n' c' => Lib.run_eql_slice_nil w _ _ a n c n' c' Try.underlying32
  obtain ⟨ao, cap, rfl, hl, hno, hc⟩ := hS.shape
  clear hS hl
  cases ao with
  | none =>
    obtain ⟨rfl, rfl⟩ := hno rfl
    clear hc hno
    go_enter Try.func18, Try.ntmps18
    go_wp2
    go_ret
    exact ⟨_, rfl, by simp, .inl ⟨rfl, rfl⟩, Below.refl _ _⟩
  | some a =>
    clear hno
    have hmk := run_make_row' (P := Try.prog) 32 9 (.string ByteArray.empty) 16 Try.underlying32 Try.info9 rfl .i64 .i64 ss.length (by omega) (by omega)
    have HC : Hid (0 < ss.length → ∃ b off, some a = some ⟨b, off, none⟩ ∧ SRow w b off ss) := hc
    clear hc
    go_enter Try.func18, Try.ntmps18
    go_wp2
    clear hmk q32
    go_loopw [4] (fun i wr => ∃ k : Nat, k ≤ ss.length ∧ i = .int .i64 k ∧ ∃ c : Array Value, wr = w.alloc (.cells c 9) ∧ c.size = ss.length ∧ Hid (∀ j, j < k → c[j]? = some (.string (ss.getD j .empty)))) (fun i _ => ss.length - (intOf i).toNat)
    case atStart => exact ⟨0, Nat.zero_le _, rfl, _, rfl, size_madeCells _ _, fun j hj => absurd hj (Nat.not_lt_zero _)⟩
    case round =>
      obtain ⟨k, hk, rfl, c, rfl, hcs, HF⟩ := hrel
      by_cases hlt : k < ss.length
      · obtain ⟨b, off, ha, hb, hr⟩ := HC.out (by omega)
        simp only [Option.some.injEq] at ha
        subst ha
        have hcell := hr k hlt
        have hne : b ≠ w.heap.size := by omega
        have hck : k < c.size := by omega
        have HK : Hid (c.size = ss.length) := hcs
        clear hr HC hcs
        obtain ⟨t, ht⟩ : ∃ t, t = ss.getD k .empty := ⟨_, rfl⟩
        rw [← ht] at hcell
        have HT : Hid (t = ss.getD k .empty) := ht
        clear ht
        go_wp2
        go_roundw
        case rel => exact ⟨k + 1, by omega, by go_num, _, rfl, by simpa using HK.out, set_step ss c k t hck HF.out HT.out⟩
        case measure => simp [intOf]; omega
      · obtain rfl : k = ss.length := by omega
        have HN : Hid (ss.length ≤ 131072) := hn
        go_wp2
        go_ret
        exact ⟨_, rfl, by simp, .inr ⟨w.heap.size, c, rfl, HN.out, blk_alloc_new _ _, HF.out⟩, (Below.refl _ _).alloc (Nat.le_refl _) _⟩

theorem Clone.form {w : World} {v : Value} {ss : List ByteArray} (h : Clone w v ss) : ∃ (ao : Option Addr) (n cap : Nat), v = .slice ao n cap := by
  rcases h with ⟨h, _⟩ | ⟨g, c, hv, _⟩
  · exact ⟨none, 0, 0, h⟩
  · exact ⟨_, _, _, hv⟩

theorem bcell {W w1 : World} (hb : Below W.heap.size W w1) : (∀ b o, b < W.heap.size → w1.cell? ⟨b, o, none⟩ = W.cell? ⟨b, o, none⟩) ∧ (∀ b o, b < W.heap.size → w1.frozen? ⟨b, o, none⟩ = W.frozen? ⟨b, o, none⟩) :=
  ⟨fun b o h => hb.cell (p := ⟨b, o, none⟩) h, fun b o h => hb.frozen (p := ⟨b, o, none⟩) h⟩

set_option maxHeartbeats 1000000 in
theorem toEntry (e : Ent) (w : World) (hO : EntOk w e) (hn : e.dl.length ≤ 131072) :
    Calls Try.prog 9 #[e.agg] w fun x w' => ∃ v', x = .returned ({ e with dv := v' } : Ent).agg ∧ (v' = .slice none 0 0 ↔ e.dv = .slice none 0 0) ∧ Clone w' v' e.dl ∧ Below w.heap.size w w' := by
  have hd := hO.det
  clear hO
  obtain ⟨f, l, t, c, p, r, x, dv, dl⟩ := e
  simp only at hd hn
  unfold Ent.agg
  simp only
  go_enter Try.func9, Try.ntmps9
  go_wp2
  first
    | go_region_held (fun W => W.cell? ⟨w.heap.size, 0, none⟩ = some (.string f) ∧ W.cell? ⟨w.heap.size, 1, none⟩ = some (.int .i64 l) ∧ W.cell? ⟨w.heap.size, 2, none⟩ = some (.string t) ∧ W.cell? ⟨w.heap.size, 3, none⟩ = some (.string c) ∧
        W.cell? ⟨w.heap.size, 4, none⟩ = some (.bool p) ∧ W.cell? ⟨w.heap.size, 5, none⟩ = some (.string r) ∧ W.cell? ⟨w.heap.size, 6, none⟩ = some (.string x) ∧ W.cell? ⟨w.heap.size, 7, none⟩ = some dv) (go_simp)
      (first | (go_at_call 18; refine (clone_any dv dl _ ?_ hn).mono ?_; exact hd.keep (by exact (((Below.refl _ _).alloc (Nat.le_refl _) _).alloc (by simp) _).drew); rintro x' w1 ⟨v', rfl, hnil, hcl, hb⟩; obtain ⟨ao, n, cap, hv⟩ := hcl.form; rw [hv]; have HV : Hid (_ = _) := hv; clear hv; obtain ⟨hc1, hf1⟩ := bcell hb; have hz := hb.size; have HCL : Hid (Clone w1 v' dl ∧ (v' = .slice none 0 0 ↔ dv = .slice none 0 0) ∧ Below _ _ w1) := ⟨hcl, hnil, hb⟩; clear hcl hnil hb))
    | fail
  go_wp2
  refine bodyPost_ret (v := .agg #[.string f, .int .i64 l, .string t, .string c, .bool p, .string r, .string x, .slice ao n cap]) (by simp [results, Try.results9, go_sem, hc1]) rfl ⟨v', by rw [HV.out], HCL.out.2.1, ?_, ?_⟩
  · have hB := HCL.out.2.2
    have hT : IsT w1 (w.heap.size + 1) 34 := IsT.below (w := World.drew _) ⟨_, _, by show (World.alloc _ _).heap[w.heap.size + 1]? = _; rw [← nblk_alloc w]; exact blk_alloc_new _ _⟩ hB
    have hk := K9.refl hT
    exact HCL.out.1.keep (((((((((hk.set (by decide) 0 _).set (by decide) 1 _).set (by decide) 2 _).set (by decide) 3 _).set (by decide) 4 _).set (by decide) 5 _).set (by decide) 6 _).set (by decide) 7 _).1)
  · have hB := HCL.out.2.2
    exact ((((((((((((Below.refl _ _).alloc (Nat.le_refl _) _).alloc (by simp) _).drew.trans (hB.mono (by simp; omega))).setCell (by simp) _).setCell (by simp) _).setCell (by simp) _).setCell (by simp) _).setCell (by simp) _).setCell (by simp) _).setCell (by simp) _).setCell (by simp) _)
end Go.Proofs.Qxb6630645a

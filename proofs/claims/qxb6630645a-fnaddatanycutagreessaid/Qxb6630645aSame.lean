/-
  zzSameB1, zzMatchB1, where they answer true.
-/
import Derived.Test.Qxb6630645aEntries
import Derived.Deep.QuietTactic
import Derived.BigQuiet
import Derived.Deep.RegionHeld
import Derived.WalkSmall
namespace Go.Proofs.Qxb6630645a
open Go.ChangeShapes Go.WideShapes Go.ChangeAt Go.RowKit
open Go.Deep

theorem box_a (w : World) (c : Array Value) (o2 : Obj) (v : Value) (j : Nat) (hj : c[j]? = some v) {t : TypeId} : ((w.alloc (.cells c t)).alloc o2).cell? ⟨w.heap.size, j, none⟩ = some v := by
  have hb : ((w.alloc (.cells c t)).alloc o2).heap[w.heap.size]? = some (Obj.cells c t (0, 0)) := by
    rw [blk_alloc_lt _ _ _ (by rw [nblk_alloc]; omega)]; exact blk_alloc_new _ _
  unfold World.cell?
  simp only [hb]
  simpa using hj
theorem box_b (w : World) (c : Array Value) (o1 : Obj) (v : Value) (j : Nat) (hj : c[j]? = some v) {t : TypeId} : ((w.alloc o1).alloc (.cells c t)).cell? ⟨w.heap.size + 1, j, none⟩ = some v := by
  have hb : ((w.alloc o1).alloc (.cells c t)).heap[w.heap.size + 1]? = some (Obj.cells c t (0, 0)) := by
    rw [← nblk_alloc w o1]; exact blk_alloc_new _ _
  unfold World.cell?
  simp only [hb]
  simpa using hj

set_option maxHeartbeats 1000000 in
theorem same_yes (b : Ent) (va : Value) (w : World) (hA : Strs w va b.dl) (hB : Strs w b.dv b.dl) (hnil : va = .slice none 0 0 ↔ b.dv = .slice none 0 0) :
    Calls Try.prog 16 #[({ b with dv := va } : Ent).agg, b.agg] w fun x w' => x = .returned (.bool true) ∧ Below w.heap.size w w' := by
  have q32 : ∀ (w : World) (a : Option Addr) (n c n' c' : Nat), (binOp .eql 32 (.slice a n c) (.slice none n' c')).run Try.prog w = .ok (.bool a.isNone) w := fun w a n c n' c' => Lib.run_eql_slice_nil w _ _ a n c n' c' Try.underlying32
  obtain ⟨f, l, t, c, p, r, x, dv, dl⟩ := b
  simp only at hA hB hnil
  unfold Ent.agg
  simp only
  obtain ⟨ao, ca, rfl, hl, hna, ha⟩ := hA.shape
  obtain ⟨bo, cb, rfl, -, hnb, hb⟩ := hB.shape
  unfold maxLen at hl
  have hno : ao.isNone = bo.isNone := by
    rw [Bool.eq_iff_iff, Option.isNone_iff_eq_none, Option.isNone_iff_eq_none]
    constructor
    · intro h; have := hna h; subst h; rw [this.1, this.2] at hnil; have := hnil.1 rfl; simp at this; exact this.1
    · intro h; have := hnb h; subst h; rw [this.1, this.2] at hnil; have := hnil.2 rfl; simp at this; exact this.1
  have HA : Hid (0 < dl.length → ∃ b off, ao = some ⟨b, off, none⟩ ∧ SRow w b off dl) := ha
  have HB : Hid (0 < dl.length → ∃ b off, bo = some ⟨b, off, none⟩ ∧ SRow w b off dl) := hb
  clear hA hB hnil hna hnb ha hb
  go_enter Try.func16, Try.ntmps16
  go_wp2
  clear hno q32
  go_loopw [5] (fun i wr => ∃ k : Nat, k ≤ dl.length ∧ i = .int .i64 k ∧ Below (w.heap.size + 2) ((w.alloc (.cells #[.string f, .int .i64 l, .string t, .string c, .bool p, .string r, .string x, .slice ao dl.length ca] 34)).alloc (.cells #[.string f, .int .i64 l, .string t, .string c, .bool p, .string r, .string x, .slice bo dl.length cb] 36)) wr) (fun i _ => dl.length - (intOf i).toNat)
  case atStart => exact ⟨0, Nat.zero_le _, rfl, Below.refl _ _⟩
  case round =>
    obtain ⟨k, hk, rfl, hbel⟩ := hrel
    have ha7 := (hbel.cell (p := ⟨w.heap.size, 7, none⟩) (by simp)).trans (box_a w _ _ (.slice ao dl.length ca) 7 rfl)
    have hb7 := (hbel.cell (p := ⟨w.heap.size + 1, 7, none⟩) (by simp)).trans (box_b w _ _ (.slice bo dl.length cb) 7 rfl)
    have HW : Hid (Below w.heap.size w wr) := ((((Below.refl _ _).alloc (Nat.le_refl _) _).alloc (by simp) _).trans (hbel.mono (by omega)))
    by_cases hlt : k < dl.length
    · obtain ⟨b1, o1, rfl, hr1⟩ := HA.out (by omega)
      obtain ⟨b2, o2, rfl, hr2⟩ := HB.out (by omega)
      have d1 := (HW.out.cell (p := ⟨b1, o1 + k, none⟩) hr1.1).trans (hr1.2 k hlt)
      have d2 := (HW.out.cell (p := ⟨b2, o2 + k, none⟩) hr2.1).trans (hr2.2 k hlt)
      have HL : Hid (Below _ _ _) := hbel
      clear hr1 hr2 HA HB hbel
      generalize dl.getD k .empty = s at *
      go_wp2
      go_quiet (fail)
      go_wp2
      go_roundw
      case rel => exact ⟨k + 1, by omega, by go_num, below_drewN HL.out _⟩
      case measure => simp [intOf]; omega
    · clear hbel
      go_wp2
      go_ret
      exact ⟨rfl, HW.out⟩
end Go.Proofs.Qxb6630645a

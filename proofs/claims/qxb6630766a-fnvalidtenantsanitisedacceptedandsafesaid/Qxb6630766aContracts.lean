/-
  Contracts of the tenant name functions over the given translation.
-/
import Derived.Test.Qxb6630766aRows
import Derived.WalkKit
import Derived.ProofKit
import Derived.WalkSpells
import Derived.Lib.Strings
namespace Go.Proofs.Qxb6630766a
open Go.ChangeShapes Go.WideShapes Go.ChangeAt Go.RowKit

theorem ret_bool {a b : Bool} (h : a = b) : Ending.returned (.bool a) = .returned (.bool b) := by rw [h]

/-- A letter or a digit. -/
def alnum (n : Int) : Bool := decide ((97 ≤ n ∧ n ≤ 122) ∨ (65 ≤ n ∧ n ≤ 90) ∨ (48 ≤ n ∧ n ≤ 57))
/-- A byte that may stand behind the first. -/
def tailb (n : Int) : Bool := decide ((97 ≤ n ∧ n ≤ 122) ∨ (65 ≤ n ∧ n ≤ 90) ∨ (48 ≤ n ∧ n ≤ 57) ∨ n = 46 ∨ n = 95 ∨ n = 45)
/-- A byte that may stand at place k. -/
def okc (k : Nat) (n : Int) : Bool := decide ((97 ≤ n ∧ n ≤ 122) ∨ (65 ≤ n ∧ n ≤ 90) ∨ (48 ≤ n ∧ n ≤ 57) ∨ (0 < k ∧ (n = 46 ∨ n = 95 ∨ n = 45)))
/-- The byte at place k. -/
def byte (s : ByteArray) (k : Nat) : Int := ((s.data.toList.getD k 0).toNat : Int)
/-- Is every byte ahead of k well placed? -/
def good (s : ByteArray) (k : Nat) : Bool := (List.range k).all fun j => okc j (byte s j)
/-- The rule. -/
def vt (s : ByteArray) : Bool := decide (1 ≤ s.size ∧ s.size ≤ 64) && good s s.size
/-- The bad bytes ahead of k. -/
def bad (s : ByteArray) (k : Nat) : Nat := ((List.range k).filter fun j => !tailb (byte s j)).length

theorem getD_data (s : ByteArray) (i : Nat) (h : i < s.size) : (s[i]'h) = s.data.toList.getD i 0 := by
  have h' : i < s.data.toList.length := by rw [← Lib.size_eq]; exact h
  rw [List.getD_eq_getElem?_getD, List.getElem?_eq_getElem h']
  simp [ByteArray.getElem_eq_getElem_data]
theorem byte_at (s : ByteArray) (i : Nat) (h : i < s.size) : ((s[i]'h).toNat : Int) = byte s i := by
  rw [getD_data]; rfl
theorem good_succ (s : ByteArray) (k : Nat) : good s (k + 1) = (good s k && okc k (byte s k)) := by
  simp [good, List.range_succ]
theorem good_mono (s : ByteArray) (k m : Nat) (h : k < m) (hb : okc k (byte s k) = false) : good s m = false := by
  unfold good; rw [← Bool.not_eq_true, List.all_eq_true]
  intro hh; have := hh k (List.mem_range.2 h); rw [hb] at this; exact absurd this (by decide)
theorem bad_succ (s : ByteArray) (k : Nat) : bad s (k + 1) = bad s k + if tailb (byte s k) = true then 0 else 1 := by
  unfold bad; rw [List.range_succ, List.filter_append, List.length_append]
  cases h : tailb (byte s k) <;> simp [h]
theorem bad_le (s : ByteArray) (k : Nat) : bad s k ≤ k := by
  unfold bad; refine Nat.le_trans (List.length_filter_le _ _) (by simp)
theorem bad_zero (s : ByteArray) (k : Nat) : bad s k = 0 ↔ ∀ j, j < k → tailb (byte s j) = true := by
  unfold bad; rw [List.length_eq_zero_iff, List.filter_eq_nil_iff]; simp
theorem good_iff (s : ByteArray) (k : Nat) : good s k = true ↔ ∀ j, j < k → okc j (byte s j) = true := by
  unfold good; rw [List.all_eq_true]; simp
theorem okc_pos (k : Nat) (n : Int) (h : 0 < k) : okc k n = tailb n := by
  unfold okc tailb; congr 1; rw [eq_iff_iff]; omega
theorem okc_zero (n : Int) : okc 0 n = alnum n := by
  unfold okc alnum; congr 1; rw [eq_iff_iff]; omega
theorem alnum_tail (n : Int) (h : alnum n = true) : tailb n = true := by
  unfold alnum at h; unfold tailb; simp only [decide_eq_true_eq] at *; omega
theorem model_eq (s : ByteArray) (h1 : 1 ≤ s.size) (h2 : s.size ≤ 64) : vt s = (decide (bad s s.size = 0) && alnum (byte s 0)) := by
  rw [Bool.eq_iff_iff, Bool.and_eq_true, decide_eq_true_eq, bad_zero]
  unfold vt; rw [Bool.and_eq_true, decide_eq_true_eq, good_iff]
  constructor
  · rintro ⟨-, h⟩
    refine ⟨fun j hj => ?_, by rw [← okc_zero]; exact h 0 (by omega)⟩
    by_cases h0 : 0 < j
    · rw [← okc_pos j _ h0]; exact h j hj
    · obtain rfl : j = 0 := by omega
      exact alnum_tail _ (by rw [← okc_zero]; exact h 0 hj)
  · rintro ⟨h, h0⟩
    refine ⟨⟨h1, h2⟩, fun j hj => ?_⟩
    by_cases hz : 0 < j
    · rw [okc_pos j _ hz]; exact h j hj
    · obtain rfl : j = 0 := by omega
      rw [okc_zero]; exact h0

theorem empty_iff (s : ByteArray) : s.toList.isEmpty = decide (s.size = 0) := by
  rw [Lib.toList_data, Lib.size_eq]; cases s.data.toList <;> simp

/-! ### zzAlnum -/
theorem or32 : ∀ n : Fin 256, ((97 ≤ bits .or .u8 (n.val : Int) 32 ∧ bits .or .u8 (n.val : Int) 32 ≤ 122) ↔ ((97 ≤ (n.val : Int) ∧ (n.val : Int) ≤ 122) ∨ (65 ≤ (n.val : Int) ∧ (n.val : Int) ≤ 90))) := by
  decide +kernel
theorem or32' (n : Int) (h0 : 0 ≤ n) (h1 : n ≤ 255) : ((97 ≤ bits .or .u8 n 32 ∧ bits .or .u8 n 32 ≤ 122) ↔ ((97 ≤ n ∧ n ≤ 122) ∨ (65 ≤ n ∧ n ≤ 90))) := by
  have := or32 ⟨n.toNat, by omega⟩
  simpa [Int.toNat_of_nonneg h0] using this

set_option maxHeartbeats 400000 in
theorem alnum_any (n : Int) (w : World) (h0 : 0 ≤ n) (h1 : n ≤ 255) :
    Calls Try.prog 12 #[.int .u8 n] w fun e w' => e = .returned (.bool (alnum n)) ∧ w' = w := by
  have H := or32' n h0 h1
  have HH : Hid (_ ↔ _) := H
  clear H
  go_enter Try.func12, Try.ntmps12
  go_wp2
  all_goals
    go_ret
    refine ⟨ret_bool ?_, rfl⟩
    have H := HH.out
    rw [Bool.eq_iff_iff]; unfold alnum; simp only [decide_eq_true_eq, Bool.false_eq_true, true_iff, false_iff]; omega

set_option maxHeartbeats 400000 in
theorem tail_any (n : Int) (w : World) (h0 : 0 ≤ n) (h1 : n ≤ 255) :
    Calls Try.prog 11 #[.int .u8 n] w fun e w' => e = .returned (.bool (tailb n)) ∧ w' = w := by
  cases ha : alnum n
  · have HA : Hid (¬ ((97 ≤ n ∧ n ≤ 122) ∨ (65 ≤ n ∧ n ≤ 90) ∨ (48 ≤ n ∧ n ≤ 57))) := of_decide_eq_false ha
    go_enter Try.func11, Try.ntmps11
    go_wp2_with (go_at_call 12; refine (alnum_any _ _ h0 h1).mono ?_; rintro e w' ⟨rfl, rfl⟩)
    all_goals
      go_ret
      refine ⟨ret_bool ?_, rfl⟩
      have HB := HA.out
      rw [Bool.eq_iff_iff]; unfold tailb; simp only [decide_eq_true_eq, Bool.or_eq_true, beq_iff_eq, true_iff]; omega
  · have HT : Hid (true = tailb n) := (alnum_tail n ha).symm
    go_enter Try.func11, Try.ntmps11
    go_wp2_with (go_at_call 12; refine (alnum_any _ _ h0 h1).mono ?_; rintro e w' ⟨rfl, rfl⟩)
    go_ret
    exact ⟨ret_bool HT.out, rfl⟩

set_option maxHeartbeats 400000 in
theorem valid_any (s : ByteArray) (w : World) (hs : s.size ≤ 1000000) :
    Calls Try.prog 6 #[.string s] w fun e w' => e = .returned (.bool (vt s)) ∧ w' = w := by
  by_cases h0 : 1 ≤ s.size
  case neg =>
    have HE : Hid (false = vt s) := by show _ = _; simp [vt, h0]
    have h2 : s.toList.isEmpty = true := by rw [empty_iff]; exact decide_eq_true (by omega)
    go_enter Try.func6, Try.ntmps6
    go_wp2
    go_ret
    exact ⟨ret_bool HE.out, rfl⟩
  have h2 : s.toList.isEmpty = false := by rw [empty_iff]; exact decide_eq_false (by omega)
  by_cases h1 : s.size ≤ 64
  case neg =>
    have HE : Hid (false = vt s) := by show _ = _; simp [vt, h1]
    go_enter Try.func6, Try.ntmps6
    go_wp2
    go_ret
    exact ⟨ret_bool HE.out, rfl⟩
  go_enter Try.func6, Try.ntmps6
  go_wp2
  go_loop [3] (fun i => ∃ k : Nat, k ≤ s.size ∧ i = .int .i64 k ∧ Hid (good s k = true)) (fun i => s.size - (intOf i).toNat)
  case atStart => exact ⟨0, Nat.zero_le _, rfl, rfl⟩
  case round =>
    obtain ⟨k, hk, rfl, HG⟩ := hrel
    by_cases hlt : k < s.size
    · have HY : Hid (∀ b, okc k ((s[k]'hlt).toNat : Int) = b → (b = true → good s (k + 1) = true) ∧ (b = false → false = vt s)) := by
        show ∀ b, _
        intro b hb
        rw [byte_at] at hb
        refine ⟨fun h => ?_, fun h => ?_⟩
        · rw [good_succ, hb, h, Bool.and_true]; exact HG
        · rw [vt, good_mono s k s.size hlt (hb.trans h), Bool.and_false]
      clear HG
      go_wp2
      all_goals first
        | (go_round
           case rel =>
             refine ⟨k + 1, by omega, by go_num, (HY.out true ?_).1 rfl⟩
             clear HY
             unfold okc; simp only [beq_iff_eq, decide_eq_true_eq] at *; omega
           case measure => simp [intOf]; omega)
        | (go_ret
           refine ⟨ret_bool ((HY.out false ?_).2 rfl), rfl⟩
           clear HY
           unfold okc; simp only [beq_eq_false_iff_ne, decide_eq_false_iff_not] at *; omega)
    · have HE : Hid (true = vt s) := by
        show _ = _
        obtain rfl : k = s.size := by omega
        have HG' : good s s.size = true := HG
        rw [vt, HG']; simp; omega
      clear HG
      go_wp2
      go_ret
      exact ⟨ret_bool HE.out, rfl⟩

set_option maxHeartbeats 400000 in
theorem model_any (s : ByteArray) (w : World) (hs : s.size ≤ 1000000) :
    Calls Try.prog 7 #[.string s] w fun e w' => e = .returned (.bool (vt s)) ∧ w' = w := by
  by_cases h0 : 1 ≤ s.size
  case neg =>
    have HE : Hid (false = vt s) := by show _ = _; simp [vt, h0]
    go_enter Try.func7, Try.ntmps7
    go_wp2
    go_ret
    exact ⟨ret_bool HE.out, rfl⟩
  by_cases h1 : s.size ≤ 64
  case neg =>
    have HE : Hid (false = vt s) := by show _ = _; simp [vt, h1]
    go_enter Try.func7, Try.ntmps7
    go_wp2
    go_ret
    exact ⟨ret_bool HE.out, rfl⟩
  have HM : Hid (_ = _) := model_eq s h0 h1
  have d0 : decide ((s.size : Int) < 1) = false := decide_eq_false (by omega)
  have d1 : decide (64 < (s.size : Int)) = false := decide_eq_false (by omega)
  go_enter Try.func7, Try.ntmps7
  go_wp2
  go_loop [4, 5] (fun b i => ∃ k : Nat, k ≤ s.size ∧ i = .int .i64 k ∧ b = .int .i64 (bad s k : Nat)) (fun _ i => s.size - (intOf i).toNat)
  case atStart => exact ⟨0, Nat.zero_le _, rfl, rfl⟩
  case round =>
    obtain ⟨k, hk, rfl, rfl⟩ := hrel
    have hb := bad_le s k
    by_cases hlt : k < s.size
    · have hy : ((s[k]'hlt).toNat : Int) = byte s k := byte_at s k hlt
      have y0 : 0 ≤ ((s[k]'hlt).toNat : Int) := by omega
      have y1 : ((s[k]'hlt).toNat : Int) ≤ 255 := by have := (s[k]'hlt).toNat_lt; omega
      have HS : Hid (_ = _) := bad_succ s k
      rw [← hy] at HS
      clear hy
      cases ht : tailb ((s[k]'hlt).toNat : Int)
      all_goals
        go_wp2_with (go_at_call 11; refine (tail_any _ _ y0 y1).mono ?_; rintro e w' ⟨rfl, rfl⟩)
        go_round
        case rel => exact ⟨k + 1, by omega, by go_num, by rw [HS.out, ht]; go_num⟩
        case measure => simp [intOf]; omega
    · obtain rfl : k = s.size := by omega
      have y0 : 0 ≤ ((s[0]'h0).toNat : Int) := by omega
      have y1 : ((s[0]'h0).toNat : Int) ≤ 255 := by have := (s[0]'h0).toNat_lt; omega
      have HZ : Hid (_ = _) := byte_at s 0 h0
      by_cases hz : bad s s.size = 0
      · go_wp2_with (go_at_call 12; refine (alnum_any _ _ y0 y1).mono ?_; rintro e w' ⟨rfl, rfl⟩)
        go_ret
        exact ⟨ret_bool (by rw [HM.out, HZ.out, hz]; simp), rfl⟩
      · have hz' : ((bad s s.size : Int) == 0) = false := beq_eq_false_iff_ne.2 (by omega)
        go_wp2
        go_ret
        exact ⟨ret_bool (by rw [HM.out]; simp [hz]), rfl⟩

set_option maxHeartbeats 400000 in
theorem bytes5_any (a b : ByteArray) (w : World) (ha : a.size ≤ maxLen) (hb : b.size ≤ maxLen) :
    Calls Try.prog 5 #[.string a, .string b] w fun e w' => (∃ q, e = .returned (.bool q)) ∧ w' = w := by
  unfold maxLen at *
  go_enter Try.func5, Try.ntmps5
  go_wp2
  all_goals (go_ret; exact ⟨⟨_, rfl⟩, rfl⟩)

set_option maxHeartbeats 400000 in
theorem bytes8_any (a : ByteArray) (w : World) (ha : a.size ≤ maxLen) :
    Calls Try.prog 8 #[.string a] w fun e w' => (∃ q, e = .returned (.bool q)) ∧ w' = w := by
  unfold maxLen at *
  go_enter Try.func8, Try.ntmps8
  go_wp2
  all_goals (go_ret; exact ⟨⟨_, rfl⟩, rfl⟩)

theorem forg_no {n : Int} (h : okc 1 n = true) : 0 ≤ n ∧ 32 ≤ n ∧ n < 127 ∧ n ≠ 32 ∧ n ≠ 34 ∧ n ≠ 39 ∧ n ≠ 44 ∧ n ≠ 59 ∧ n ≠ 58 ∧ n ≠ 61 ∧ n ≠ 47 ∧ n ≠ 92 ∧ n ≠ 124 ∧ n ≠ 123 ∧ n ≠ 125 ∧ n ≠ 91 ∧ n ≠ 93 ∧ n ≠ 60 ∧ n ≠ 62 ∧ n ≠ 35 ∧ n ≠ 37 ∧ n ≠ 38 ∧ n ≠ 42 ∧ n ≠ 43 ∧ n ≠ 63 ∧ n ≠ 64 := by
  unfold okc at h; rw [decide_eq_true_eq] at h; omega

set_option maxHeartbeats 400000 in
theorem forging_no (n : Int) (w : World) (h : tailb n = true) :
    Calls Try.prog 10 #[.int .u8 n] w fun e w' => e = .returned (.bool false) ∧ w' = w := by
  obtain ⟨a0, a1, a2, c1, c2, c3, c4, c5, c6, c7, c8, c9, c10, c11, c12, c13, c14, c15, c16, c17, c18, c19, c20, c21, c22, c23⟩ := forg_no ((okc_pos 1 n (by omega)).trans h)
  clear h
  rw [← beq_eq_false_iff_ne] at c1 c2 c3 c4 c5 c6 c7 c8 c9 c10 c11 c12 c13 c14 c15 c16 c17 c18 c19 c20 c21 c22 c23
  go_enter Try.func10, Try.ntmps10
  go_wp2
  go_ret
  exact ⟨rfl, rfl⟩
end Go.Proofs.Qxb6630766a

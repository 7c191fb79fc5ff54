import Derived.Test.Qxb6630691aRows
import Derived.Test.Qxb6630691aPlain
import Derived.WalkKit
import Derived.ProofKit
import Derived.Outline
import Derived.Deep.QuietTactic
import Derived.BigQuiet
namespace Go.Proofs.Qxb6630691a
open Go.ChangeShapes Go.WideShapes Go.ChangeAt Go.RowKit

theorem ret_bool {a b : Bool} (h : a = b) : Ending.returned (.bool a) = .returned (.bool b) := by rw [h]
theorem ret_int {k : IntKind} {a b : Int} (h : a = b) : Ending.returned (.int k a) = .returned (.int k b) := by rw [h]

theorem tmod4 (y : Int) : y.tmod 4 = 0 ↔ y % 4 = 0 := by rw [Int.tmod_eq_emod]; split <;> omega
theorem tmod100 (y : Int) : y.tmod 100 = 0 ↔ y % 100 = 0 := by rw [Int.tmod_eq_emod]; split <;> omega
theorem tmod400 (y : Int) : y.tmod 400 = 0 ↔ y % 400 = 0 := by rw [Int.tmod_eq_emod]; split <;> omega

/-- The leap test as a Bool. -/
def lpB (y : Int) : Bool := decide (Cal.lp y = 1)

theorem lp_one (y : Int) : Cal.lp y = 1 ↔ (y % 4 = 0 ∧ (y % 100 ≠ 0 ∨ y % 400 = 0)) := by
  unfold Cal.lp; split <;> omega
theorem lpB_iff (y : Int) : lpB y = true ↔ (y % 4 = 0 ∧ (y % 100 ≠ 0 ∨ y % 400 = 0)) := by
  rw [← lp_one]; simp [lpB]
theorem lpB_a (y : Int) (h : y.tmod 4 = 0) (h2 : y.tmod 100 = 0) : (y.tmod 400 == 0) = lpB y := by
  rw [tmod4] at h; rw [tmod100] at h2
  rw [Bool.eq_iff_iff, lpB_iff, beq_iff_eq, tmod400]; omega
theorem lpB_b (y : Int) (h : y.tmod 4 = 0) (h2 : ¬ y.tmod 100 = 0) : true = lpB y := by
  rw [tmod4] at h; rw [tmod100] at h2
  symm; rw [lpB_iff]; omega
theorem lpB_c (y : Int) (h : ¬ y.tmod 4 = 0) : false = lpB y := by
  rw [tmod4] at h
  symm; rw [← Bool.not_eq_true, lpB_iff]; omega

set_option maxHeartbeats 400000 in
theorem leap_any (y : Int) (w : World) :
    Calls Try.prog 11 #[.int .i64 y] w fun e w' => e = .returned (.bool (lpB y)) ∧ w' = w := by
  go_enter Try.func11, Try.ntmps11
  go_wp2
  · go_ret; exact ⟨ret_bool (lpB_a y ‹_› ‹_›), rfl⟩
  · go_ret; exact ⟨ret_bool (lpB_b y ‹_› ‹_›), rfl⟩
  · go_ret; exact ⟨ret_bool (lpB_c y ‹_›), rfl⟩

set_option maxHeartbeats 400000 in
theorem dim_any (y m : Int) (w : World) :
    Calls Try.prog 10 #[.int .i64 y, .int .i64 m] w fun e w' => e = .returned (.int .i64 (Cal.dim y m)) ∧ w' = w := by
  by_cases h2 : m = 2
  · subst h2
    cases hl : lpB y
    · have e : (28 : Int) = Cal.dim y 2 := by
        have := Cal.lp_01 y; simp only [lpB, decide_eq_false_iff_not] at hl; simp only [Cal.dim, if_pos]; omega
      have HE : Hid ((28 : Int) = Cal.dim y 2) := e
      clear e
      go_enter Try.func10, Try.ntmps10
      go_wp2_with (go_at_call 11; refine (leap_any _ _).mono ?_; rintro e w' ⟨rfl, rfl⟩)
      go_ret; exact ⟨ret_int HE.out, rfl⟩
    · have e : (29 : Int) = Cal.dim y 2 := by
        have := Cal.lp_01 y; simp only [lpB, decide_eq_true_eq] at hl; simp only [Cal.dim, if_pos]; omega
      have HE : Hid ((29 : Int) = Cal.dim y 2) := e
      clear e
      go_enter Try.func10, Try.ntmps10
      go_wp2_with (go_at_call 11; refine (leap_any _ _).mono ?_; rintro e w' ⟨rfl, rfl⟩)
      go_ret; exact ⟨ret_int HE.out, rfl⟩
  · by_cases h4 : m = 4 ∨ m = 6 ∨ m = 9 ∨ m = 11
    · have e : (30 : Int) = Cal.dim y m := by simp only [Cal.dim, if_neg h2, if_pos h4]
      have HE : Hid ((30 : Int) = Cal.dim y m) := e
      clear e
      rcases h4 with rfl | rfl | rfl | rfl
      all_goals
        go_enter Try.func10, Try.ntmps10
        go_wp2
        go_ret; exact ⟨ret_int HE.out, rfl⟩
    · have e : (31 : Int) = Cal.dim y m := by simp only [Cal.dim, if_neg h2, if_neg h4]
      have HE : Hid ((31 : Int) = Cal.dim y m) := e
      clear e
      have a2 : (m == 2) = false := by simp; omega
      have a4 : (m == 4) = false := by simp; omega
      have a6 : (m == 6) = false := by simp; omega
      have a9 : (m == 9) = false := by simp; omega
      have a11 : (m == 11) = false := by simp; omega
      clear h2 h4
      go_enter Try.func10, Try.ntmps10
      go_wp2
      go_ret; exact ⟨ret_int HE.out, rfl⟩

theorem bef_a {y1 m1 d1 y2 m2 d2 : Int} (h : (y1 != y2) = true) : decide (y1 < y2) = Cal.bef y1 m1 d1 y2 m2 d2 := by
  rw [bne_iff_ne] at h; unfold Cal.bef; congr 1; rw [eq_iff_iff]; omega
theorem bef_b {y1 m1 d1 y2 m2 d2 : Int} (h : (y1 != y2) = false) (h2 : (m1 != m2) = true) : decide (m1 < m2) = Cal.bef y1 m1 d1 y2 m2 d2 := by
  rw [bne_iff_ne] at h2; simp at h; unfold Cal.bef; congr 1; rw [eq_iff_iff]; omega
theorem bef_c {y1 m1 d1 y2 m2 d2 : Int} (h : (y1 != y2) = false) (h2 : (m1 != m2) = false) : decide (d1 < d2) = Cal.bef y1 m1 d1 y2 m2 d2 := by
  simp at h2; simp at h; unfold Cal.bef; congr 1; rw [eq_iff_iff]; omega

set_option maxHeartbeats 400000 in
theorem before_any (y1 m1 d1 y2 m2 d2 : Int) (w : World) :
    Calls Try.prog 8 #[.agg #[.int .i64 y1, .int .i64 m1, .int .i64 d1], .agg #[.int .i64 y2, .int .i64 m2, .int .i64 d2]] w fun e w' => e = .returned (.bool (Cal.bef y1 m1 d1 y2 m2 d2)) ∧ w' = (w.alloc (Obj.cells #[.int .i64 y1, .int .i64 m1, .int .i64 d1] 24)).alloc (Obj.cells #[.int .i64 y2, .int .i64 m2, .int .i64 d2] 24) := by
  go_enter Try.func8, Try.ntmps8
  go_wp2
  · go_ret; exact ⟨ret_bool (bef_a ‹_›), rfl⟩
  · go_ret; exact ⟨ret_bool (bef_b ‹_› ‹_›), rfl⟩
  · go_ret; exact ⟨ret_bool (bef_c ‹_› ‹_›), rfl⟩

set_option maxHeartbeats 400000 in
theorem new_any (y m d : Int) (w : World) :
    Calls Try.prog 6 #[.int .i64 y, .int .i64 m, .int .i64 d] w fun e w' => e = .returned (.agg #[.int .i64 y, .int .i64 m, .int .i64 d]) ∧ w' = w.alloc (Obj.cells #[.int .i64 y, .int .i64 m, .int .i64 d] 24) := by
  go_enter Try.func6, Try.ntmps6
  go_wp2
  exact bodyPost_ret (v := .agg #[.int .i64 y, .int .i64 m, .int .i64 d]) (by simp [results, Try.results6, go_sem]) rfl ⟨rfl, rfl⟩

theorem vld_no {y m d : Int} (h : ¬ (-1073741824 ≤ y ∧ y ≤ 1073741824 ∧ 1 ≤ m ∧ m ≤ 12 ∧ 1 ≤ d ∧ d ≤ Cal.dim y m)) : false = Cal.vld y m d := by
  simp only [Cal.vld, h, decide_false]
theorem vld_yes {y m d : Int} (h : (-1073741824 ≤ y ∧ y ≤ 1073741824 ∧ 1 ≤ m ∧ m ≤ 12 ∧ 1 ≤ d ∧ d ≤ Cal.dim y m)) : true = Cal.vld y m d := by
  simp only [Cal.vld, h, and_self, decide_true]

set_option maxHeartbeats 400000 in
theorem valid_any (y m d : Int) (w : World) :
    Calls Try.prog 5 #[.int .i64 y, .int .i64 m, .int .i64 d] w fun e w' => e = .returned (.bool (Cal.vld y m d)) ∧ w' = w := by
  by_cases hy1 : y < -1073741824
  · have HE : Hid (false = Cal.vld y m d) := vld_no (by omega)
    go_enter Try.func5, Try.ntmps5
    go_wp2
    go_ret; exact ⟨ret_bool HE.out, rfl⟩
  by_cases hy2 : 1073741824 < y
  · have HE : Hid (false = Cal.vld y m d) := vld_no (by omega)
    go_enter Try.func5, Try.ntmps5
    go_wp2
    go_ret; exact ⟨ret_bool HE.out, rfl⟩
  by_cases hm1 : m < 1
  · have HE : Hid (false = Cal.vld y m d) := vld_no (by omega)
    go_enter Try.func5, Try.ntmps5
    go_wp2
    go_ret; exact ⟨ret_bool HE.out, rfl⟩
  by_cases hm2 : 12 < m
  · have HE : Hid (false = Cal.vld y m d) := vld_no (by omega)
    go_enter Try.func5, Try.ntmps5
    go_wp2
    go_ret; exact ⟨ret_bool HE.out, rfl⟩
  by_cases hd1 : 1 ≤ d
  · have HE : Hid (decide (d ≤ Cal.dim y m) = Cal.vld y m d) := by
      show decide (d ≤ Cal.dim y m) = Cal.vld y m d
      by_cases h : d ≤ Cal.dim y m
      · rw [← vld_yes (by omega)]; simp [h]
      · rw [← vld_no (by omega)]; simp [h]
    go_enter Try.func5, Try.ntmps5
    go_wp2_with (go_at_call 10; refine (dim_any _ _ _).mono ?_; rintro e w' ⟨rfl, rfl⟩)
    go_ret; exact ⟨ret_bool HE.out, rfl⟩
  · have HE : Hid (false = Cal.vld y m d) := vld_no (by omega)
    go_enter Try.func5, Try.ntmps5
    go_wp2
    go_ret; exact ⟨ret_bool HE.out, rfl⟩

theorem tdiv_era (yy : Int) (h : yy < 0) : (yy - 399).tdiv 400 = yy / 400 := by
  rw [Int.tdiv_eq_ediv, show Int.sign 400 = 1 from rfl]; split <;> omega

theorem num_a (y m d : Int) (h : m ≤ 2) : (y - 1) / 400 * 146097 + ((y - 1 - (y - 1) / 400 * 400) * 365 + (y - 1 - (y - 1) / 400 * 400) / 4 - (y - 1 - (y - 1) / 400 * 400) / 100 + ((153 * (m + 9) + 2) / 5 + d - 1)) - 719468 = Cal.num y m d := by
  unfold Cal.num; simp only [Cal.era_eq, if_pos h, if_neg (show ¬ 2 < m by omega)]

theorem num_b (y m d : Int) (h : 2 < m) : y / 400 * 146097 + ((y - y / 400 * 400) * 365 + (y - y / 400 * 400) / 4 - (y - y / 400 * 400) / 100 + ((153 * (m - 3) + 2) / 5 + d - 1)) - 719468 = Cal.num y m d := by
  unfold Cal.num; simp only [Cal.era_eq, if_neg (show ¬ m ≤ 2 by omega), if_pos h]

set_option maxHeartbeats 400000 in
theorem num_any (y m d : Int) (w : World) (hy1 : -1073741824 ≤ y) (hy2 : y ≤ 1073741824) (hm1 : 1 ≤ m) (hm2 : m ≤ 12) (hd1 : 1 ≤ d) (hd2 : d ≤ 31) :
    Calls Try.prog 7 #[.int .i64 y, .int .i64 m, .int .i64 d] w fun e w' => e = .returned (.int .i64 (Cal.num y m d)) ∧ w' = w := by
  by_cases hm : m ≤ 2
  · have HE : Hid (_ = _) := num_a y m d hm
    by_cases h0 : 1 ≤ y
    · go_enter Try.func7, Try.ntmps7
      go_wp2
      go_ret; exact ⟨ret_int HE.out, rfl⟩
    · have ht := tdiv_era (y - 1) (by omega)
      go_enter Try.func7, Try.ntmps7
      go_wp2
      go_ret; exact ⟨ret_int HE.out, rfl⟩
  · have HE : Hid (_ = _) := num_b y m d (by omega)
    by_cases h0 : 0 ≤ y
    · go_enter Try.func7, Try.ntmps7
      go_wp2
      go_ret; exact ⟨ret_int HE.out, rfl⟩
    · have ht := tdiv_era y (by omega)
      go_enter Try.func7, Try.ntmps7
      go_wp2
      go_ret; exact ⟨ret_int HE.out, rfl⟩

set_option maxHeartbeats 400000 in
theorem next_any (y m d : Int) (w : World) (hy1 : -1073741824 ≤ y) (hy2 : y ≤ 1073741824) (hm1 : 1 ≤ m) (hm2 : m ≤ 12) (hd1 : 1 ≤ d) (hd2 : d ≤ 31) :
    Calls Try.prog 9 #[.int .i64 y, .int .i64 m, .int .i64 d] w fun e w' => e = .returned (.tuple #[.int .i64 (Cal.nxt y m d).1, .int .i64 (Cal.nxt y m d).2.1, .int .i64 (Cal.nxt y m d).2.2]) ∧ w' = w := by
  by_cases h1 : d < Cal.dim y m
  · have e : Cal.nxt y m d = (y, m, d + 1) := by simp [Cal.nxt, h1]
    rw [e]; clear e
    go_enter Try.func9, Try.ntmps9
    go_wp2_with (go_at_call 10; refine (dim_any _ _ _).mono ?_; rintro e w' ⟨rfl, rfl⟩)
    go_ret3; exact ⟨rfl, rfl⟩
  · by_cases h2 : m < 12
    · have e : Cal.nxt y m d = (y, m + 1, 1) := by simp [Cal.nxt, h1, h2]
      rw [e]; clear e
      go_enter Try.func9, Try.ntmps9
      go_wp2_with (go_at_call 10; refine (dim_any _ _ _).mono ?_; rintro e w' ⟨rfl, rfl⟩)
      go_ret3; exact ⟨rfl, rfl⟩
    · have e : Cal.nxt y m d = (y + 1, 1, 1) := by simp [Cal.nxt, h1, h2]
      rw [e]; clear e
      go_enter Try.func9, Try.ntmps9
      go_wp2_with (go_at_call 10; refine (dim_any _ _ _).mono ?_; rintro e w' ⟨rfl, rfl⟩)
      go_ret3; exact ⟨rfl, rfl⟩
end Go.Proofs.Qxb6630691a

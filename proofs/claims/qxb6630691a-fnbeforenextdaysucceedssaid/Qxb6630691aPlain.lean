/-
  Plain mathematics of the calendar laws: no Go in sight.
-/
namespace Go.Proofs.Qxb6630691a.Cal

/-- Is y a leap year? -/
def lp (y : Int) : Int := if y % 4 = 0 ∧ (y % 100 ≠ 0 ∨ y % 400 = 0) then 1 else 0

/-- The days of month m of year y. -/
def dim (y m : Int) : Int :=
  if m = 2 then 28 + lp y else if m = 4 ∨ m = 6 ∨ m = 9 ∨ m = 11 then 30 else 31

/-- A real day within the bound. -/
def vld (y m d : Int) : Bool :=
  decide (-1073741824 ≤ y ∧ y ≤ 1073741824 ∧ 1 ≤ m ∧ m ≤ 12 ∧ 1 ≤ d ∧ d ≤ dim y m)

/-- The number of a day, as the law counts it. -/
def num (y m d : Int) : Int :=
  let yy := if m ≤ 2 then y - 1 else y
  let era := if 0 ≤ yy then yy / 400 else -(-(yy - 399) / 400)
  let yoe := yy - era * 400
  let mp := if 2 < m then m - 3 else m + 9
  era * 146097 + (yoe * 365 + yoe / 4 - yoe / 100 + ((153 * mp + 2) / 5 + d - 1)) - 719468

/-- Is the first day ahead of the second? -/
def bef (y1 m1 d1 y2 m2 d2 : Int) : Bool :=
  decide (y1 < y2 ∨ (y1 = y2 ∧ (m1 < m2 ∨ (m1 = m2 ∧ d1 < d2))))

theorem lp_01 (y : Int) : 0 ≤ lp y ∧ lp y ≤ 1 := by unfold lp; split <;> omega

/-- Days ahead of the year y. -/
def dby (y : Int) : Int := 365 * y + (y - 1) / 4 - (y - 1) / 100 + (y - 1) / 400

/-- Days of the year y ahead of the month m. -/
def cum (y m : Int) : Int :=
  if m = 1 then 0 else if m = 2 then 31 else if m = 3 then 59 + lp y else if m = 4 then 90 + lp y
  else if m = 5 then 120 + lp y else if m = 6 then 151 + lp y else if m = 7 then 181 + lp y
  else if m = 8 then 212 + lp y else if m = 9 then 243 + lp y else if m = 10 then 273 + lp y
  else if m = 11 then 304 + lp y else if m = 12 then 334 + lp y else 365 + lp y

theorem dby_succ (y : Int) : dby (y + 1) = dby y + 365 + lp y := by
  unfold dby lp; split <;> omega

theorem dby_mono (a b : Int) (h : a ≤ b) : dby a ≤ dby b := by unfold dby; omega

theorem mcases {m : Int} (h1 : 1 ≤ m) (h2 : m ≤ 12) :
    m = 1 ∨ m = 2 ∨ m = 3 ∨ m = 4 ∨ m = 5 ∨ m = 6 ∨ m = 7 ∨ m = 8 ∨ m = 9 ∨ m = 10 ∨ m = 11 ∨ m = 12 := by omega

theorem cum_succ (y m : Int) (h1 : 1 ≤ m) (h2 : m ≤ 12) : cum y (m + 1) = cum y m + dim y m := by
  rcases mcases h1 h2 with rfl|rfl|rfl|rfl|rfl|rfl|rfl|rfl|rfl|rfl|rfl|rfl <;> simp [cum, dim] <;> omega

theorem era_eq (yy : Int) : (if 0 ≤ yy then yy / 400 else -(-(yy - 399) / 400)) = yy / 400 := by
  split <;> omega

theorem num_early (y m d : Int) (h : m ≤ 2) : num y m d = dby y + (153 * (m + 9) + 2) / 5 + d - 719834 := by
  unfold num dby; simp only [era_eq, if_pos h, if_neg (show ¬ 2 < m by omega)]; omega

theorem num_late (y m d : Int) (h : 2 < m) : num y m d = dby (y + 1) + (153 * (m - 3) + 2) / 5 + d - 719834 := by
  unfold num dby; simp only [era_eq, if_neg (show ¬ m ≤ 2 by omega), if_pos h]; omega

theorem num_eq (y m d : Int) (h1 : 1 ≤ m) (h2 : m ≤ 12) : num y m d = dby y + cum y m + d - 719528 := by
  by_cases h : m ≤ 2
  · rw [num_early _ _ _ h]
    have : m = 1 ∨ m = 2 := by omega
    rcases this with rfl | rfl <;> simp [cum] <;> omega
  · rw [num_late _ _ _ (by omega), dby_succ]
    rcases mcases h1 h2 with rfl|rfl|rfl|rfl|rfl|rfl|rfl|rfl|rfl|rfl|rfl|rfl <;> simp [cum] <;> omega

theorem vld_iff {y m d : Int} : vld y m d = true ↔ (-1073741824 ≤ y ∧ y ≤ 1073741824 ∧ 1 ≤ m ∧ m ≤ 12 ∧ 1 ≤ d ∧ d ≤ dim y m) := by
  simp [vld]

theorem bef_iff {y1 m1 d1 y2 m2 d2 : Int} : bef y1 m1 d1 y2 m2 d2 = true ↔ (y1 < y2 ∨ (y1 = y2 ∧ (m1 < m2 ∨ (m1 = m2 ∧ d1 < d2)))) := by
  simp [bef]

theorem dim_bd (y m : Int) : 28 ≤ dim y m ∧ dim y m ≤ 31 := by
  have := lp_01 y
  unfold dim; split <;> (try split) <;> omega

theorem cum_mono (y : Int) (k : Nat) : ∀ m : Int, 1 ≤ m → m + k + 1 ≤ 13 → cum y m + dim y m ≤ cum y (m + k + 1) := by
  induction k with
  | zero => intro m h1 h2; have := cum_succ y m h1 (by omega); simp at h2 ⊢; omega
  | succ k ih =>
    intro m h1 h2
    have a := ih m h1 (by omega)
    have b := cum_succ y (m + k + 1) (by omega) (by omega)
    have c := dim_bd y (m + k + 1)
    have e : m + ((k + 1 : Nat) : Int) + 1 = m + k + 1 + 1 := by omega
    rw [e]; omega

theorem cum_lt (y m1 m2 : Int) (h1 : 1 ≤ m1) (h : m1 < m2) (h2 : m2 ≤ 13) : cum y m1 + dim y m1 ≤ cum y m2 := by
  have := cum_mono y (m2 - m1 - 1).toNat m1 h1 (by omega)
  have e : m1 + (((m2 - m1 - 1).toNat : Nat) : Int) + 1 = m2 := by omega
  rwa [e] at this

theorem cum_nonneg (y m : Int) (h1 : 1 ≤ m) (h2 : m ≤ 12) : 0 ≤ cum y m := by
  have := lp_01 y
  rcases mcases h1 h2 with rfl|rfl|rfl|rfl|rfl|rfl|rfl|rfl|rfl|rfl|rfl|rfl <;> simp [cum] <;> omega

theorem num_lt {y1 m1 d1 y2 m2 d2 : Int} (v1 : vld y1 m1 d1 = true) (v2 : vld y2 m2 d2 = true) (h : bef y1 m1 d1 y2 m2 d2 = true) :
    num y1 m1 d1 < num y2 m2 d2 := by
  rw [vld_iff] at v1 v2
  rw [bef_iff] at h
  rw [num_eq _ _ _ (by omega) (by omega), num_eq _ _ _ (by omega) (by omega)]
  rcases h with h | ⟨rfl, h | ⟨rfl, h⟩⟩
  · have a := dby_mono (y1 + 1) y2 (by omega)
    have b := dby_succ y1
    have c := cum_lt y1 m1 13 (by omega) (by omega) (by omega)
    have e : cum y1 13 = 365 + lp y1 := by simp [cum]
    have f := cum_nonneg y2 m2 (by omega) (by omega)
    omega
  · have c := cum_lt y1 m1 m2 (by omega) h (by omega)
    omega
  · omega

/-- Trichotomy: exactly one of the three. -/
theorem tri (y1 m1 d1 y2 m2 d2 : Int) :
    (bef y1 m1 d1 y2 m2 d2 = true ∧ bef y2 m2 d2 y1 m1 d1 = false ∧ ¬ (y1 = y2 ∧ m1 = m2 ∧ d1 = d2)) ∨
    (bef y1 m1 d1 y2 m2 d2 = false ∧ bef y2 m2 d2 y1 m1 d1 = true ∧ ¬ (y1 = y2 ∧ m1 = m2 ∧ d1 = d2)) ∨
    (bef y1 m1 d1 y2 m2 d2 = false ∧ bef y2 m2 d2 y1 m1 d1 = false ∧ (y1 = y2 ∧ m1 = m2 ∧ d1 = d2)) := by
  simp only [bef, decide_eq_true_eq, decide_eq_false_iff_not]; omega

/-- The day behind a day. -/
def nxt (y m d : Int) : Int × Int × Int :=
  if d < dim y m then (y, m, d + 1) else if m < 12 then (y, m + 1, 1) else (y + 1, 1, 1)

theorem nxt_laws {y m d ey em ed : Int} (v : vld y m d = true) (ve : vld ey em ed = true) :
    bef y m d (nxt y m d).1 (nxt y m d).2.1 (nxt y m d).2.2 = true ∧
    bef (nxt y m d).1 (nxt y m d).2.1 (nxt y m d).2.2 y m d = false ∧
    bef y m d y m d = false ∧
    (bef ey em ed (nxt y m d).1 (nxt y m d).2.1 (nxt y m d).2.2 = true ↔ (bef ey em ed y m d = true ∨ (ey = y ∧ em = m ∧ ed = d))) := by
  rw [vld_iff] at v ve
  have hc : ey = y → em = m → dim ey em = dim y m := by rintro rfl rfl; rfl
  have hn : (d < dim y m ∧ nxt y m d = (y, m, d + 1)) ∨ (¬ d < dim y m ∧ m < 12 ∧ nxt y m d = (y, m + 1, 1)) ∨ (¬ d < dim y m ∧ ¬ m < 12 ∧ nxt y m d = (y + 1, 1, 1)) := by
    unfold nxt
    by_cases h1 : d < dim y m
    · simp [h1]
    · by_cases h2 : m < 12 <;> simp [h1, h2]
  generalize nxt y m d = n at *
  simp only [bef, decide_eq_true_eq, decide_eq_false_iff_not]
  generalize dim y m = D at *
  generalize dim ey em = E at *
  by_cases a1 : ey = y <;> by_cases a2 : em = m <;> simp only [a1, a2, forall_const, false_implies, true_and, false_and, or_false] at hc ⊢ <;>
    rcases hn with ⟨h, rfl⟩ | ⟨h, h2, rfl⟩ | ⟨h, h2, rfl⟩ <;> refine ⟨?_, ?_, ?_, ?_⟩ <;> (try dsimp only) <;> omega
end Go.Proofs.Qxb6630691a.Cal

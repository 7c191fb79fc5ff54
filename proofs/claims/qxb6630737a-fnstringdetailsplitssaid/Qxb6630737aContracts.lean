/-
  Contracts of the review package's functions over the given translation.
-/
import Derived.Test.Qxb6630737aRows
import Derived.WalkKit
import Derived.ProofKit
import Derived.WalkSpells
import Derived.Lib.Strings
namespace Go.Proofs.Qxb6630737a
open Go.ChangeShapes Go.WideShapes Go.ChangeAt Go.RowKit

theorem ret_str {a b : ByteArray} (h : a = b) : Ending.returned (.string a) = .returned (.string b) := by rw [h]

/-- What stands behind the tab. -/
def rest (r d : ByteArray) : ByteArray :=
  if r.toList.isEmpty = true then ⟨#[45]⟩ else if d.toList.isEmpty = true then r else r ++ (⟨#[32]⟩ ++ d)

/-- The rendering. -/
def rend (v r d : ByteArray) : ByteArray := v ++ ⟨#[9]⟩ ++ rest r d

theorem app_data (a b : ByteArray) : (a ++ b).data.toList = a.data.toList ++ b.data.toList := by
  simp [ByteArray.data_append]

theorem ba_ext {a b : ByteArray} (h : a.data.toList = b.data.toList) : a = b := by
  cases a; cases b; simp at h; simp [h]

theorem rend_data (v r d : ByteArray) : (rend v r d).data.toList = v.data.toList ++ 9 :: (rest r d).data.toList := by
  simp [rend]

theorem rend_size (v r d : ByteArray) : (rend v r d).size = v.size + 1 + (rest r d).size := by
  simp only [Lib.size_eq, rend_data]; simp; omega

theorem rend_head (v r d : ByteArray) : (rend v r d).extract 0 v.size = v := by
  apply ba_ext; rw [Lib.extract_data, rend_data, Lib.size_eq]
  generalize v.data.toList = l
  simp

theorem getD_data (s : ByteArray) (i : Nat) (h : i < s.size) : (s[i]'h) = s.data.toList.getD i 0 := by
  have h' : i < s.data.toList.length := by rw [← Lib.size_eq]; exact h
  rw [List.getD_eq_getElem?_getD, List.getElem?_eq_getElem h']
  simp [ByteArray.getElem_eq_getElem_data]

theorem rend_tab (v r d : ByteArray) (h : v.size < (rend v r d).size) : ((rend v r d)[v.size]'h).toNat = 9 := by
  rw [getD_data, rend_data, Lib.size_eq]
  generalize v.data.toList = l
  simp [List.getD]

theorem rend_rest (v r d : ByteArray) : (rend v r d).extract (v.size + 1) (rend v r d).size = rest r d := by
  apply ba_ext; rw [Lib.extract_data, rend_size, rend_data, Lib.size_eq, Lib.size_eq]
  generalize v.data.toList = l
  generalize (rest r d).data.toList = m
  rw [show l ++ 9 :: m = (l ++ [9]) ++ m by simp, List.drop_append_of_le_length (by simp), List.drop_of_length_le (by simp), List.nil_append, List.take_of_length_le (by omega)]

set_option maxHeartbeats 400000 in
theorem string_any (v r d : ByteArray) (w : World) (hv : v.size ≤ 1000000) (hr : r.size ≤ 1000000) (hd : d.size ≤ 1000000) :
    Calls Try.prog 6 #[.agg #[.string v, .string r, .string d]] w fun e w' => e = .returned (.string (rend v r d)) ∧ w' = w.alloc (Obj.cells #[.string v, .string r, .string d] 26) := by
  cases h1 : r.toList.isEmpty
  · cases h2 : d.toList.isEmpty
    · have HE : Hid (v ++ ⟨#[9]⟩ ++ (r ++ (⟨#[32]⟩ ++ d)) = rend v r d) := by show _ = _; simp [rend, rest, h1, h2]
      go_enter Try.func6, Try.ntmps6
      go_wp2
      go_ret; exact ⟨ret_str HE.out, rfl⟩
    · have HE : Hid (v ++ ⟨#[9]⟩ ++ r = rend v r d) := by show _ = _; simp [rend, rest, h1, h2]
      go_enter Try.func6, Try.ntmps6
      go_wp2
      go_ret; exact ⟨ret_str HE.out, rfl⟩
  · have HE : Hid (v ++ ⟨#[9]⟩ ++ ⟨#[45]⟩ = rend v r d) := by show _ = _; simp [rend, rest, h1]
    go_enter Try.func6, Try.ntmps6
    go_wp2
    go_ret; exact ⟨ret_str HE.out, rfl⟩

set_option maxHeartbeats 400000 in
theorem tab_yes (s v : ByteArray) (w : World) (_hs : s.size ≤ 10000000) (h1 : v.size < s.size) (h2 : s.extract 0 v.size = v) (h3 : (s[v.size]'h1).toNat = 9) :
    Calls Try.prog 7 #[.string s, .string v] w fun e w' => e = .returned (.bool true) ∧ w' = w := by
  go_enter Try.func7, Try.ntmps7
  go_wp2
  go_ret; exact ⟨rfl, rfl⟩

set_option maxHeartbeats 400000 in
theorem bytes5_any (a b c d : ByteArray) (w : World) (ha : a.size ≤ maxLen) (hb : b.size ≤ maxLen) (hc : c.size ≤ maxLen) (hd : d.size ≤ maxLen) :
    Calls Try.prog 5 #[.string a, .string b, .string c, .string d] w fun e w' => (∃ q, e = .returned (.bool q)) ∧ w' = w := by
  unfold maxLen at *
  go_enter Try.func5, Try.ntmps5
  go_wp2
  all_goals (go_ret; exact ⟨⟨_, rfl⟩, rfl⟩)

set_option maxHeartbeats 400000 in
theorem bytes8_any (a b c d : ByteArray) (w : World) (ha : a.size ≤ maxLen) (hb : b.size ≤ maxLen) (hc : c.size ≤ maxLen) (hd : d.size ≤ maxLen) :
    Calls Try.prog 8 #[.string a, .string b, .string c, .string d] w fun e w' => (∃ q, e = .returned (.bool q)) ∧ w' = w := by
  unfold maxLen at *
  go_enter Try.func8, Try.ntmps8
  go_wp2
  all_goals (go_ret; exact ⟨⟨_, rfl⟩, rfl⟩)
end Go.Proofs.Qxb6630737a

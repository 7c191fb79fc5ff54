/-
  The contract of zzSanitise: a new row of bytes, filled in a loop, turned into a string.
-/
import Derived.Test.Qxb6630766aContracts
import Derived.WalkKit
import Derived.ProofKit
import Derived.WalkSpells
import Derived.Deep.OwnRows
import Derived.Laws.BytesArg
namespace Go.Proofs.Qxb6630766a
open Go.ChangeShapes Go.WideShapes Go.ChangeAt Go.RowKit

theorem Try.info5 : (Try.prog.info? 5).map (fun i => (i.zero, i.size, i.bytes)) = some (some (.int .u8 0), 1, 1) := by kernel_rfl

/-- The byte that the loop lays at place j. -/
def san (s : ByteArray) (j : Nat) : Int := if tailb (byte s j) = true then byte s j else 95
/-- The byte of the result at place j. -/
def sanf (s : ByteArray) (j : Nat) : Int := if j = 0 ∧ alnum (san s 0) = false then 120 else san s j

theorem san_bd (s : ByteArray) (j : Nat) : 0 ≤ san s j ∧ san s j ≤ 255 := by
  unfold san byte; have := (s.data.toList.getD j 0).toNat_lt; split <;> omega
theorem set_step (s : ByteArray) (c : Array Value) (k : Nat) (v : Int) (hk : k < c.size) (hf : ∀ j, j < k → c[j]? = some (.int .u8 (san s j))) (hv : v = san s k) :
    ∀ j, j < k + 1 → (c.setIfInBounds k (.int .u8 v))[j]? = some (.int .u8 (san s j)) := by
  intro j hj
  rw [Array.getElem?_setIfInBounds]
  by_cases e : k = j
  · subst e; simp [hk, hv]
  · rw [if_neg e]; exact hf j (by omega)
theorem cell_new (w : World) (c : Array Value) (n : Nat) (xs : List Int) (hc : ∀ j, j < n → c[j]? = some (.int .u8 (xs.getD j 0))) :
    ∀ i, i < n → (w.alloc (.cells c 5)).cell? ⟨w.heap.size, 0 + i, none⟩ = some (.int .u8 (xs.getD i 0)) := by
  intro i hi
  have := (World.rowIs_alloc w c 5 (fun j => c.getD j undef) (fun j hj => by simp [Array.getD, hj])).cell (i := i) (by
    have := hc i hi; have := (Array.getElem?_eq_some_iff.1 this).1; omega)
  rw [Nat.zero_add, this]
  have h2 := hc i hi
  obtain ⟨h3, h4⟩ := Array.getElem?_eq_some_iff.1 h2
  simp [Array.getD, h3, h4]
theorem conv_new (w : World) (c : Array Value) (n : Nat) (f : Nat → Int) (hc : ∀ j, j < n → c[j]? = some (.int .u8 (f j))) :
    (convert 26 9 (.slice (some ⟨w.heap.size, 0, none⟩) n n)).run Try.prog (w.alloc (.cells c 5)) = .ok (.string (strOfNums ((List.range n).map f))) (w.alloc (.cells c 5)) :=
  run_convert_bytes_arg (w.alloc (.cells c 5)) 26 5 Try.underlying26 Try.underlying5 w.heap.size 0 n n ((List.range n).map f) (by simp)
    (cell_new w c n ((List.range n).map f) (fun j hj => by rw [hc j hj]; simp [List.getD, hj])) 9 Try.underlying9
theorem sanf_keep (s : ByteArray) (c : Array Value) (hf : ∀ j, j < s.size → c[j]? = some (.int .u8 (san s j))) (ha : s.size = 0 ∨ alnum (san s 0) = true) :
    ∀ j, j < s.size → c[j]? = some (.int .u8 (sanf s j)) := by
  intro j hj; rw [hf j hj]; unfold sanf; rw [if_neg]; rintro ⟨-, h⟩
  rcases ha with h0 | h0
  · omega
  · rw [h0] at h; exact absurd h (by decide)
theorem sanf_turn (s : ByteArray) (c : Array Value) (hs : s.size ≤ c.size) (hf : ∀ j, j < s.size → c[j]? = some (.int .u8 (san s j))) (ha : alnum (san s 0) = false) :
    ∀ j, j < s.size → (c.setIfInBounds 0 (.int .u8 120))[j]? = some (.int .u8 (sanf s j)) := by
  intro j hj
  rw [Array.getElem?_setIfInBounds]
  by_cases e : 0 = j
  · subst e; rw [if_pos rfl, if_pos (by omega)]; simp [sanf, ha]
  · rw [if_neg e, hf j hj]; unfold sanf; rw [if_neg (by omega)]

set_option maxHeartbeats 400000 in
theorem san_any (s : ByteArray) (w : World) (hs : s.size ≤ 1000000) :
    Calls Try.prog 9 #[.string s] w fun e w' => (∃ t : ByteArray, e = .returned (.string t) ∧ t = strOfNums ((List.range s.size).map (sanf s))) ∧ ∃ c, w' = w.alloc (.cells c 5) := by
  have hmk := run_make_row' (P := Try.prog) 26 5 (.int .u8 0) 1 Try.underlying26 Try.info5 rfl .i64 .i64 s.size (by omega) (by omega)
  go_enter Try.func9, Try.ntmps9
  go_wp2
  clear hmk
  go_loopw [4] (fun i wr => ∃ k : Nat, k ≤ s.size ∧ i = .int .i64 k ∧ ∃ c : Array Value, wr = w.alloc (.cells c 5) ∧ c.size = s.size ∧ ∀ j, j < k → c[j]? = some (.int .u8 (san s j))) (fun i _ => s.size - (intOf i).toNat)
  case atStart => exact ⟨0, Nat.zero_le _, rfl, _, rfl, size_madeCells _ _, fun j hj => by omega⟩
  case round =>
    obtain ⟨k, hk, rfl, c, rfl, hc, hf⟩ := hrel
    by_cases hlt : k < s.size
    · have hy : ((s[k]'hlt).toNat : Int) = byte s k := byte_at s k hlt
      have y0 : 0 ≤ ((s[k]'hlt).toNat : Int) := by omega
      have y1 : ((s[k]'hlt).toNat : Int) ≤ 255 := by have := (s[k]'hlt).toNat_lt; omega
      have hck : k < c.size := by omega
      have HF : Hid (∀ j, j < k → c[j]? = some (.int .u8 (san s j))) := hf
      have HC : Hid (c.size = s.size) := hc
      have HY : Hid (((s[k]'hlt).toNat : Int) = byte s k) := hy
      clear hf hc hy
      cases ht : tailb ((s[k]'hlt).toNat : Int)
      all_goals
        go_wp2_with (go_at_call 11; refine (tail_any _ _ y0 y1).mono ?_; rintro e w' ⟨rfl, h⟩; obtain rfl := h.symm)
        go_roundw
        case rel =>
          exact ⟨k + 1, by omega, by go_num, _, rfl, by simpa using HC.out, set_step s c k _ hck HF.out (by rw [san, ← HY.out, ht]; rfl)⟩
        case measure => simp [intOf]; omega
    · obtain rfl : k = s.size := by omega
      by_cases h0 : s.size = 0
      · have hcv := conv_new w c s.size (sanf s) (sanf_keep s c hf (.inl h0))
        have HC : Hid (c.size = s.size) := hc
        have HZ : Hid (s.size = 0) := h0
        clear hf hc h0
        have hd : ¬ 0 < s.size := by have := HZ.out; omega
        go_wp2
        go_ret
        exact ⟨⟨_, rfl, rfl⟩, _, rfl⟩
      · have hc0 : 0 < c.size := by omega
        have h00 : c[0]'hc0 = .int .u8 (san s 0) := by
          have := hf 0 (by omega)
          exact (Array.getElem?_eq_some_iff.1 this).2
        have hd : 0 < s.size := by omega
        have hb := san_bd s 0
        cases ha : alnum (san s 0)
        · have hcv := conv_new w (c.setIfInBounds 0 (.int .u8 120)) s.size (sanf s) (sanf_turn s c (by omega) hf ha)
          clear hf hc
          go_wp2_with (go_at_call 12; refine (alnum_any _ _ hb.1 hb.2).mono ?_; rintro e w' ⟨rfl, h⟩; obtain rfl := h.symm)
          go_ret
          exact ⟨⟨_, rfl, rfl⟩, _, rfl⟩
        · have hcv := conv_new w c s.size (sanf s) (sanf_keep s c hf (.inr ha))
          clear hf hc
          go_wp2_with (go_at_call 12; refine (alnum_any _ _ hb.1 hb.2).mono ?_; rintro e w' ⟨rfl, h⟩; obtain rfl := h.symm)
          go_ret
          exact ⟨⟨_, rfl, rfl⟩, _, rfl⟩
end Go.Proofs.Qxb6630766a

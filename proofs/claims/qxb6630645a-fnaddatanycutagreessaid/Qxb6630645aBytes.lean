/-
  zzGrowB1, zzEntryBytesB1, zzListBytesB1: what they bound.
-/
import Derived.Test.Qxb6630645aBase
namespace Go.Proofs.Qxb6630645a
open Go.ChangeShapes Go.WideShapes Go.ChangeAt Go.RowKit

/-- A sum within the bound, and a flag under which 'd' holds. -/
def Sums (x : Ending) (d : Bool → Prop) : Prop := ∃ (s' : Int) (ok : Bool), x = .returned (.tuple #[.int .i64 s', .bool ok]) ∧ 0 ≤ s' ∧ s' ≤ 1048576 ∧ d ok
/-- Some Bool. -/
def IsBool (o : Value) : Prop := ∃ q, o = .bool q

set_option maxHeartbeats 400000 in
theorem grow_any (s n : Int) (w : World) (s0 : 0 ≤ s) (s1 : s ≤ 1048576) (n0 : 0 ≤ n) (n1 : n ≤ 9223372036854775807) :
    Calls Try.prog 19 #[.int .i64 s, .int .i64 n] w fun e w' => Sums e (fun _ => True) ∧ w' = w := by
  by_cases h : 1048576 - s < n
  · go_enter Try.func19, Try.ntmps19
    go_wp2
    go_ret2
    exact ⟨⟨_, _, rfl, s0, s1, trivial⟩, rfl⟩
  · go_enter Try.func19, Try.ntmps19
    go_wp2
    go_ret2
    exact ⟨⟨_, _, rfl, by omega, by omega, trivial⟩, rfl⟩

set_option maxHeartbeats 1000000 in
theorem entryBytes (s : Int) (e : Ent) (w : World) (s0 : 0 ≤ s) (s1 : s ≤ 1048576) (hO : EntOk w e) :
    Calls Try.prog 17 #[.int .i64 s, e.agg] w fun x w' => Sums x (fun ok => ok = true → e.dl.length ≤ 131072) ∧ Below w.heap.size w w' := by
  obtain ⟨f1, f2, f3, f4, f5, f6, f7⟩ := hO
  obtain ⟨ao, cap, hdv, hl, hn, hc⟩ := f7.shape
  unfold maxLen at f1 f2 f3 f4 f5 hl
  unfold Ent.agg
  rw [hdv]
  have HD : Hid (∀ s ∈ e.dl, s.size ≤ maxLen) := f6
  have HC : Hid (0 < e.dl.length → ∃ b off, ao = some ⟨b, off, none⟩ ∧ SRow w b off e.dl) := hc
  clear f6 hc hn f7 hdv
  go_enter Try.func17, Try.ntmps17
  go_wp2_with (go_at_call 19; refine (grow_any _ _ _ (by omega) (by omega) (by omega) (by omega)).mono ?_; rintro x w' ⟨⟨s', ok, rfl, h0, h1, -⟩, h⟩; obtain rfl := h.symm; cases ok)
  all_goals try (go_ret2; exact ⟨⟨_, false, rfl, by omega, by omega, fun h => by cases h⟩, (Below.refl _ _).alloc (Nat.le_refl _) _⟩)
  have HW : Hid (e.dl.length ≤ 131072) := by show e.dl.length ≤ 131072; omega
  go_loop [0, 6, 7] (fun t o i => ∃ (k : Nat) (z : Int), k ≤ e.dl.length ∧ i = .int .i64 k ∧ t = .int .i64 z ∧ 0 ≤ z ∧ z ≤ 1048576 ∧ IsBool o) (fun _ _ i => e.dl.length - (intOf i).toNat)
  case atStart => exact ⟨0, _, Nat.zero_le _, rfl, rfl, by omega, by omega, _, rfl⟩
  case round =>
    obtain ⟨k, z, hk, rfl, rfl, z0, z1, q, rfl⟩ := hrel
    by_cases hlt : k < e.dl.length
    · obtain ⟨b, off, rfl, hb, hr⟩ := HC.out (by omega)
      have hcell := hr k hlt
      have hsz : (e.dl.getD k .empty).size ≤ maxLen := HD.out _ (by simp [List.getD, hlt])
      clear hr HC HD
      generalize e.dl.getD k .empty = t at *
      unfold maxLen at hsz
      go_wp2_with (go_at_call 19; refine (grow_any _ _ _ (by omega) (by omega) (by omega) (by omega)).mono ?_; rintro x w' ⟨⟨s', ok, rfl, h0, h1, -⟩, h⟩; obtain rfl := h.symm)
      · go_ret2; exact ⟨⟨_, false, rfl, by omega, by omega, fun h => by cases h⟩, (Below.refl _ _).alloc (Nat.le_refl _) _⟩
      · go_round
        case rel => exact ⟨k + 1, _, by omega, by go_num, rfl, by omega, by omega, _, rfl⟩
        case measure => simp [intOf]; omega
    · go_wp2
      go_ret2
      exact ⟨⟨_, true, rfl, by omega, by omega, fun _ => HW.out⟩, (Below.refl _ _).alloc (Nat.le_refl _) _⟩

set_option maxHeartbeats 1000000 in
theorem listBytes (s : Int) (v : Value) (es : List Ent) (w : World) (s0 : 0 ≤ s) (s1 : s ≤ 1048576) (hE : Ents w v es) :
    Calls Try.prog 6 #[.int .i64 s, v] w fun x w' => Sums x (fun ok => ok = true → es.length ≤ 131072 ∧ ∀ i, i < es.length → (es.getD i ent0).dl.length ≤ 131072) ∧ Below w.heap.size w w' := by
  obtain ⟨ao, cap, rfl, hl, hn, hc⟩ := hE.shape
  unfold maxLen at hl
  have HO : Hid (∀ e ∈ es, EntOk w e) := hE.2
  have HC : Hid (0 < es.length → ∃ b off, ao = some ⟨b, off, none⟩ ∧ ERow w b off es) := hc
  clear hE hn hc
  by_cases hb : (1048576 - s) / 8 < (es.length : Int)
  · go_enter Try.func6, Try.ntmps6
    go_wp2
    go_ret2
    exact ⟨⟨_, false, rfl, by omega, by omega, fun h => by cases h⟩, Below.refl _ _⟩
  have HW : Hid (es.length ≤ 131072) := by show es.length ≤ 131072; omega
  go_enter Try.func6, Try.ntmps6
  go_wp2
  go_loopw [0, 6, 7] (fun t o i wr => ∃ (k : Nat) (z : Int), k ≤ es.length ∧ i = .int .i64 k ∧ t = .int .i64 z ∧ 0 ≤ z ∧ z ≤ 1048576 ∧ IsBool o ∧ Hid (∀ i, i < k → (es.getD i ent0).dl.length ≤ 131072) ∧ Below w.heap.size w wr) (fun _ _ i _ => es.length - (intOf i).toNat)
  case atStart => exact ⟨0, _, Nat.zero_le _, rfl, rfl, by omega, by omega, ⟨_, rfl⟩, fun i hi => absurd hi (Nat.not_lt_zero _), Below.refl _ _⟩
  case round =>
    obtain ⟨k, z, hk, rfl, rfl, z0, z1, ⟨q, rfl⟩, HK, hbel⟩ := hrel
    by_cases hlt : k < es.length
    · obtain ⟨b, off, rfl, hr⟩ := HC.out (by omega)
      have hat := (hr.2 k hlt).keepB hr.1 hbel
      have HE : Hid (EntOk wr (es.getD k ent0)) := (HO.out _ (by simp [List.getD, hlt])).keep hbel
      have HN : Hid (∀ n, (es.getD k ent0).dl.length ≤ n → n ≤ 131072 → ∀ i, i < k + 1 → (es.getD i ent0).dl.length ≤ 131072) := by
        intro n hn h1 i hi
        by_cases e : i = k
        · subst e; omega
        · exact HK.out i (by omega)
      clear hr HK
      generalize es.getD k ent0 = e at *
      obtain ⟨c0, c1, c2, c3, c4, c5, c6, c7⟩ := hat
      have HB : Hid (Below w.heap.size w wr) := hbel
      clear hbel
      go_wp2_with (go_at_call 17; refine (entryBytes _ e _ (by omega) (by omega) HE.out).mono ?_; rintro x w' ⟨⟨s', ok, rfl, h0, h1, h2⟩, hb'⟩; have HX : Hid (ok = true → e.dl.length ≤ 131072) := h2; have HY : Hid (Below wr.heap.size wr w') := hb'; clear h2 hb'; cases ok)
      · go_ret2
        exact ⟨⟨_, false, rfl, by omega, by omega, fun h => by cases h⟩, HB.out.trans (HY.out.mono HB.out.size)⟩
      · go_roundw
        case rel => exact ⟨k + 1, _, by omega, by go_num, rfl, by omega, by omega, ⟨_, rfl⟩, HN.out _ (Nat.le_refl _) (HX.out (by trivial)), HB.out.trans (HY.out.mono HB.out.size)⟩
        case measure => simp [intOf]; omega
    · obtain rfl : k = es.length := by omega
      go_wp2
      go_ret2
      exact ⟨⟨_, true, rfl, by omega, by omega, fun _ => ⟨HW.out, HK.out⟩⟩, hbel⟩
end Go.Proofs.Qxb6630645a

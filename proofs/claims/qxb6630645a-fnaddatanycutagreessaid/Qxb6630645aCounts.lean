/-
  The four counting functions.
-/
import Derived.Test.Qxb6630645aBase
namespace Go.Proofs.Qxb6630645a
open Go.ChangeShapes Go.WideShapes Go.ChangeAt Go.RowKit

set_option maxHeartbeats 400000 in
theorem countErr (v : Value) (es : List Ent) (w : World) (hE : Ents w v es) :
    Calls Try.prog 10 #[v] w fun e w' => e = .returned (.int .i64 (cnt Ent.isErr es es.length)) ∧ w' = w := by
  obtain ⟨ao, cap, rfl, hl, hn, hc⟩ := hE.shape
  unfold maxLen at hl
  have HO : Hid (∀ e ∈ es, EntOk w e) := hE.2
  clear hE hn
  have HC : Hid (0 < es.length → ∃ b off, ao = some ⟨b, off, none⟩ ∧ ERow w b off es) := hc
  clear hc
  go_enter Try.func10, Try.ntmps10
  go_wp2
  go_loop [3, 4] (fun c i => ∃ k : Nat, k ≤ es.length ∧ i = .int .i64 k ∧ c = .int .i64 (cnt Ent.isErr es k)) (fun _ i => es.length - (intOf i).toNat)
  case atStart => exact ⟨0, Nat.zero_le _, rfl, rfl⟩
  case round =>
    obtain ⟨k, hk, rfl, rfl⟩ := hrel
    have hle := cnt_le Ent.isErr es k
    by_cases hlt : k < es.length
    · obtain ⟨b, off, rfl, hr⟩ := HC.out (by omega)
      have HS : Hid (_ = _) := cnt_succ Ent.isErr es k hlt
      have hat := hr.2 k hlt
      have hes : (es.getD k ent0).err.size ≤ maxLen := (HO.out _ (by simp [List.getD, hlt])).err
      clear hr HC HO
      generalize es.getD k ent0 = e at *
      unfold maxLen at hes
      obtain ⟨-, -, -, -, -, -, c6, -⟩ := hat
      by_cases hp : 0 < e.err.size
      · have HP : Hid (e.isErr = true) := decide_eq_true hp
        go_wp2
        go_round
        case rel => exact ⟨k + 1, by omega, by go_num, by rw [HS.out, HP.out]; go_num⟩
        case measure => simp [intOf]; omega
      · have HP : Hid (e.isErr = false) := decide_eq_false hp
        go_wp2
        go_round
        case rel => exact ⟨k + 1, by omega, by go_num, by rw [HS.out, HP.out]; go_num⟩
        case measure => simp [intOf]; omega
    · obtain rfl : k = es.length := by omega
      go_wp2
      go_ret
      exact ⟨rfl, rfl⟩

set_option maxHeartbeats 400000 in
theorem countPass (v : Value) (es : List Ent) (w : World) (hE : Ents w v es) :
    Calls Try.prog 11 #[v] w fun e w' => e = .returned (.int .i64 (cnt Ent.isPass es es.length)) ∧ w' = w := by
  obtain ⟨ao, cap, rfl, hl, hn, hc⟩ := hE.shape
  unfold maxLen at hl
  have HO : Hid (∀ e ∈ es, EntOk w e) := hE.2
  clear hE hn
  have HC : Hid (0 < es.length → ∃ b off, ao = some ⟨b, off, none⟩ ∧ ERow w b off es) := hc
  clear hc
  go_enter Try.func11, Try.ntmps11
  go_wp2
  go_loop [3, 4] (fun c i => ∃ k : Nat, k ≤ es.length ∧ i = .int .i64 k ∧ c = .int .i64 (cnt Ent.isPass es k)) (fun _ i => es.length - (intOf i).toNat)
  case atStart => exact ⟨0, Nat.zero_le _, rfl, rfl⟩
  case round =>
    obtain ⟨k, hk, rfl, rfl⟩ := hrel
    have hle := cnt_le Ent.isPass es k
    by_cases hlt : k < es.length
    · obtain ⟨b, off, rfl, hr⟩ := HC.out (by omega)
      have HS : Hid (_ = _) := cnt_succ Ent.isPass es k hlt
      have hat := hr.2 k hlt
      have hes : (es.getD k ent0).err.size ≤ maxLen := (HO.out _ (by simp [List.getD, hlt])).err
      clear hr HC HO
      generalize es.getD k ent0 = e at *
      unfold maxLen at hes
      obtain ⟨-, -, -, -, c4, -, c6, -⟩ := hat
      by_cases hp : 0 < e.err.size
      · have HP : Hid (e.isPass = false) := by show _ = _; simp [Ent.isPass, Ent.isErr, hp]
        have hz : ((e.err.size : Int) == 0) = false := beq_eq_false_iff_ne.2 (by omega)
        go_wp2
        go_round
        case rel => exact ⟨k + 1, by omega, by go_num, by rw [HS.out, HP.out]; go_num⟩
        case measure => simp [intOf]; omega
      · have hz : ((e.err.size : Int) == 0) = true := beq_iff_eq.2 (by omega)
        cases hq : e.pass
        · have HP : Hid (e.isPass = false) := by show _ = _; simp [Ent.isPass, hq]
          go_wp2
          go_round
          case rel => exact ⟨k + 1, by omega, by go_num, by rw [HS.out, HP.out]; go_num⟩
          case measure => simp [intOf]; omega
        · have HP : Hid (e.isPass = true) := by show _ = _; simp [Ent.isPass, Ent.isErr, hp, hq]
          go_wp2
          go_round
          case rel => exact ⟨k + 1, by omega, by go_num, by rw [HS.out, HP.out]; go_num⟩
          case measure => simp [intOf]; omega
    · obtain rfl : k = es.length := by omega
      go_wp2
      go_ret
      exact ⟨rfl, rfl⟩

set_option maxHeartbeats 400000 in
theorem storedErr (v : Value) (es : List Ent) (w : World) (hE : Ents w v es) :
    Calls Try.prog 14 #[v] w fun e w' => e = .returned (.int .i64 (cnt Ent.isErr es es.length)) ∧ w' = w := by
  obtain ⟨ao, cap, rfl, hl, hn, hc⟩ := hE.shape
  unfold maxLen at hl
  have HO : Hid (∀ e ∈ es, EntOk w e) := hE.2
  clear hE hn
  have HC : Hid (0 < es.length → ∃ b off, ao = some ⟨b, off, none⟩ ∧ ERow w b off es) := hc
  clear hc
  go_enter Try.func14, Try.ntmps14
  go_wp2
  go_loop [3, 4] (fun c i => ∃ k : Nat, k ≤ es.length ∧ i = .int .i64 k ∧ c = .int .i64 (cnt Ent.isErr es k)) (fun _ i => es.length - (intOf i).toNat)
  case atStart => exact ⟨0, Nat.zero_le _, rfl, rfl⟩
  case round =>
    obtain ⟨k, hk, rfl, rfl⟩ := hrel
    have hle := cnt_le Ent.isErr es k
    by_cases hlt : k < es.length
    · obtain ⟨b, off, rfl, hr⟩ := HC.out (by omega)
      have HS : Hid (_ = _) := cnt_succ Ent.isErr es k hlt
      have hat := hr.2 k hlt
      have hes : (es.getD k ent0).err.size ≤ maxLen := (HO.out _ (by simp [List.getD, hlt])).err
      clear hr HC HO
      generalize es.getD k ent0 = e at *
      unfold maxLen at hes
      obtain ⟨-, -, -, -, -, -, c6, -⟩ := hat
      by_cases hp : 0 < e.err.size
      · have HP : Hid (e.isErr = true) := decide_eq_true hp
        go_wp2
        go_round
        case rel => exact ⟨k + 1, by omega, by go_num, by rw [HS.out, HP.out]; go_num⟩
        case measure => simp [intOf]; omega
      · have HP : Hid (e.isErr = false) := decide_eq_false hp
        go_wp2
        go_round
        case rel => exact ⟨k + 1, by omega, by go_num, by rw [HS.out, HP.out]; go_num⟩
        case measure => simp [intOf]; omega
    · obtain rfl : k = es.length := by omega
      go_wp2
      go_ret
      exact ⟨rfl, rfl⟩

set_option maxHeartbeats 400000 in
theorem storedPass (v : Value) (es : List Ent) (w : World) (hE : Ents w v es) :
    Calls Try.prog 15 #[v] w fun e w' => e = .returned (.int .i64 (cnt Ent.isPass es es.length)) ∧ w' = w := by
  obtain ⟨ao, cap, rfl, hl, hn, hc⟩ := hE.shape
  unfold maxLen at hl
  have HO : Hid (∀ e ∈ es, EntOk w e) := hE.2
  clear hE hn
  have HC : Hid (0 < es.length → ∃ b off, ao = some ⟨b, off, none⟩ ∧ ERow w b off es) := hc
  clear hc
  go_enter Try.func15, Try.ntmps15
  go_wp2
  go_loop [3, 4] (fun c i => ∃ k : Nat, k ≤ es.length ∧ i = .int .i64 k ∧ c = .int .i64 (cnt Ent.isPass es k)) (fun _ i => es.length - (intOf i).toNat)
  case atStart => exact ⟨0, Nat.zero_le _, rfl, rfl⟩
  case round =>
    obtain ⟨k, hk, rfl, rfl⟩ := hrel
    have hle := cnt_le Ent.isPass es k
    by_cases hlt : k < es.length
    · obtain ⟨b, off, rfl, hr⟩ := HC.out (by omega)
      have HS : Hid (_ = _) := cnt_succ Ent.isPass es k hlt
      have hat := hr.2 k hlt
      have hes : (es.getD k ent0).err.size ≤ maxLen := (HO.out _ (by simp [List.getD, hlt])).err
      clear hr HC HO
      generalize es.getD k ent0 = e at *
      unfold maxLen at hes
      obtain ⟨-, -, -, -, c4, -, c6, -⟩ := hat
      by_cases hp : 0 < e.err.size
      · have HP : Hid (e.isPass = false) := by show _ = _; simp [Ent.isPass, Ent.isErr, hp]
        have hz : ((e.err.size : Int) == 0) = false := beq_eq_false_iff_ne.2 (by omega)
        go_wp2
        go_round
        case rel => exact ⟨k + 1, by omega, by go_num, by rw [HS.out, HP.out]; go_num⟩
        case measure => simp [intOf]; omega
      · have hz : ((e.err.size : Int) == 0) = true := beq_iff_eq.2 (by omega)
        cases hq : e.pass
        · have HP : Hid (e.isPass = false) := by show _ = _; simp [Ent.isPass, hq]
          go_wp2
          go_round
          case rel => exact ⟨k + 1, by omega, by go_num, by rw [HS.out, HP.out]; go_num⟩
          case measure => simp [intOf]; omega
        · have HP : Hid (e.isPass = true) := by show _ = _; simp [Ent.isPass, Ent.isErr, hp, hq]
          go_wp2
          go_round
          case rel => exact ⟨k + 1, by omega, by go_num, by rw [HS.out, HP.out]; go_num⟩
          case measure => simp [intOf]; omega
    · obtain rfl : k = es.length := by omega
      go_wp2
      go_ret
      exact ⟨rfl, rfl⟩

end Go.Proofs.Qxb6630645a

/-
  zzBytes_FnAddScriptMatchesModel: it answers some Bool and writes nothing.
-/
import Derived.Test.Qxb6630645aBase
namespace Go.Proofs.Qxb6630645a
open Go.ChangeShapes Go.WideShapes Go.ChangeAt Go.RowKit

/-- Some integer. -/
def IsInt (o : Value) : Prop := ∃ z, o = .int .i64 z
/-- Some Bool is returned. -/
def RetBool (x : Ending) : Prop := ∃ q, x = .returned (.bool q)

set_option maxRecDepth 100000 in
set_option maxHeartbeats 16000000 in
theorem guard5 (v1 v2 : Value) (i1 i2 i3 i4 : Int) (es1 es2 : List Ent) (w : World) (hE1 : Ents w v1 es1) (hE2 : Ents w v2 es2) :
    Calls Try.prog 5 #[v1, .int .i64 i1, .int .i64 i2, .int .i64 i3, .int .i64 i4, v2] w fun x w' => RetBool x ∧ w' = w := by
  obtain ⟨a1, k1, rfl, hl1, -, hc1⟩ := hE1.shape
  obtain ⟨a2, k2, rfl, hl2, -, hc2⟩ := hE2.shape
  have HD1 : Hid (∀ e ∈ es1, EntOk w e) := hE1.2
  have HD2 : Hid (∀ e ∈ es2, EntOk w e) := hE2.2
  have HC1 : Hid (0 < es1.length → ∃ b off, a1 = some ⟨b, off, none⟩ ∧ ERow w b off es1) := hc1
  have HC2 : Hid (0 < es2.length → ∃ b off, a2 = some ⟨b, off, none⟩ ∧ ERow w b off es2) := hc2
  clear hE1 hE2 hc1 hc2
  unfold maxLen at hl1 hl2
  by_cases g1 : 1048576 < es1.length
  · go_enter Try.func5, Try.ntmps5
    go_wp2
    go_ret
    exact ⟨⟨_, rfl⟩, rfl⟩
  go_enter Try.func5, Try.ntmps5
  go_wp2
  go_loop [13, 14] (fun t i => ∃ k : Nat, k ≤ es1.length ∧ i = .int .i64 k ∧ IsInt t) (fun _ i => es1.length - (intOf i).toNat)
  case atStart => exact ⟨0, Nat.zero_le _, rfl, _, rfl⟩
  case round =>
    obtain ⟨k, hk, rfl, z, rfl⟩ := hrel
    by_cases hltk : k < es1.length
    · obtain ⟨b, o, ha, hr⟩ := HC1.out (by omega)
      subst ha
      obtain ⟨c0, c1, c2, c3, c4, c5, c6, c7⟩ := hr.2 k hltk
      obtain ⟨f1, f2, f3, f4, f5, f6, f7⟩ := HD1.out (es1.getD k ent0) (by simp [List.getD, hltk])
      clear hr HC1 HD1
      generalize es1.getD k ent0 = e at *
      obtain ⟨ao, cap, hdv, hl, -, hd⟩ := f7.shape
      rw [hdv] at c7
      have HF : Hid (∀ s ∈ e.dl, s.size ≤ maxLen) := f6
      have HD : Hid (0 < e.dl.length → ∃ b off, ao = some ⟨b, off, none⟩ ∧ SRow w b off e.dl) := hd
      clear hd hdv f7 f6 c1 c4
      unfold maxLen at f1 f2 f3 f4 f5 hl
      go_wp2
      all_goals try (go_ret; exact ⟨⟨_, rfl⟩, rfl⟩)
      go_loop [13, 15] (fun t i => ∃ j : Nat, j ≤ e.dl.length ∧ i = .int .i64 j ∧ IsInt t) (fun _ i => e.dl.length - (intOf i).toNat)
      case atStart => exact ⟨0, Nat.zero_le _, rfl, _, rfl⟩
      case round =>
        obtain ⟨j, hj, rfl, y, rfl⟩ := hrel
        by_cases hjl : j < e.dl.length
        · obtain ⟨b2, o2, ha, hr⟩ := HD.out (by omega)
          subst ha
          have hcell := hr.2 j hjl
          have hsz : (e.dl.getD j .empty).size ≤ maxLen := HF.out _ (by simp [List.getD, hjl])
          clear hr HD HF
          generalize e.dl.getD j .empty = s at *
          unfold maxLen at hsz
          go_wp2
          all_goals try (go_ret; exact ⟨⟨_, rfl⟩, rfl⟩)
          go_round
          case rel => exact ⟨j + 1, by omega, by go_num, _, rfl⟩
          case measure => simp [intOf]; omega
        · go_wp2
          go_round
          case rel => exact ⟨k + 1, by omega, by go_num, _, rfl⟩
          case measure => simp [intOf]; omega
    · clear HC1 HD1
      go_wp2
      all_goals try (go_ret; exact ⟨⟨_, rfl⟩, rfl⟩)
      go_loop [13, 16] (fun t i => ∃ k : Nat, k ≤ es2.length ∧ i = .int .i64 k ∧ IsInt t) (fun _ i => es2.length - (intOf i).toNat)
      case atStart => exact ⟨0, Nat.zero_le _, rfl, _, rfl⟩
      case round =>
        obtain ⟨m, hm, rfl, x, rfl⟩ := hrel
        by_cases hltm : m < es2.length
        · obtain ⟨b, o, ha, hr⟩ := HC2.out (by omega)
          subst ha
          obtain ⟨c0, c1, c2, c3, c4, c5, c6, c7⟩ := hr.2 m hltm
          obtain ⟨f1, f2, f3, f4, f5, f6, f7⟩ := HD2.out (es2.getD m ent0) (by simp [List.getD, hltm])
          clear hr HC2 HD2
          generalize es2.getD m ent0 = e at *
          obtain ⟨ao, cap, hdv, hl, -, hd⟩ := f7.shape
          rw [hdv] at c7
          have HF : Hid (∀ s ∈ e.dl, s.size ≤ maxLen) := f6
          have HD : Hid (0 < e.dl.length → ∃ b off, ao = some ⟨b, off, none⟩ ∧ SRow w b off e.dl) := hd
          clear hd hdv f7 f6 c1 c4
          unfold maxLen at f1 f2 f3 f4 f5 hl
          go_wp2
          all_goals try (go_ret; exact ⟨⟨_, rfl⟩, rfl⟩)
          go_loop [13, 17] (fun t i => ∃ j : Nat, j ≤ e.dl.length ∧ i = .int .i64 j ∧ IsInt t) (fun _ i => e.dl.length - (intOf i).toNat)
          case atStart => exact ⟨0, Nat.zero_le _, rfl, _, rfl⟩
          case round =>
            obtain ⟨j, hj, rfl, y, rfl⟩ := hrel
            by_cases hjl : j < e.dl.length
            · obtain ⟨b2, o2, ha, hr⟩ := HD.out (by omega)
              subst ha
              have hcell := hr.2 j hjl
              have hsz : (e.dl.getD j .empty).size ≤ maxLen := HF.out _ (by simp [List.getD, hjl])
              clear hr HD HF
              generalize e.dl.getD j .empty = s at *
              unfold maxLen at hsz
              go_wp2
              all_goals try (go_ret; exact ⟨⟨_, rfl⟩, rfl⟩)
              go_round
              case rel => exact ⟨j + 1, by omega, by go_num, _, rfl⟩
              case measure => simp [intOf]; omega
            · go_wp2
              go_round
              case rel => exact ⟨m + 1, by omega, by go_num, _, rfl⟩
              case measure => simp [intOf]; omega
        · go_wp2
          go_ret
          exact ⟨⟨_, rfl⟩, rfl⟩

end Go.Proofs.Qxb6630645a

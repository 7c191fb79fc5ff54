/-
  The proof of 'Rows.FnStringDetailSplitsSaid': the frame is the guide's shell; the walk is typed by hand over the contracts.
-/
import Derived.Test.Qxb6630737aContracts
import Derived.Deep.RegionWith
import Derived.Test.Qxb6630737aRows
import Derived.WalkKit
import Derived.ProofKit
import Derived.OpenShut
import Derived.ShutString
namespace Go.Proofs.Qxb6630737a.fnStringDetailSplits
open Go.ChangeShapes Go.WideShapes Go.ChangeAt Go.RowKit
open Go.ChangeMaps (open_string shut_string)
set_option linter.unusedVariables false      -- a walk need not use every 'w<i>' (that an integer argument fits its kind)

theorem own : ownKnob Try.prog.godebug = none := by kernel_rfl

theorem one_size (c : UInt8) : (ByteArray.mk #[c]).size = 1 := rfl
theorem isEmpty_iff (a : ByteArray) : a.toList.isEmpty = true ↔ a.data.toList = [] := by rw [Lib.toList_data]; simp
theorem rend_bd (v r d : ByteArray) : (rend v r d).size ≤ v.size + r.size + d.size + 2 := by
  rw [rend_size]; unfold rest; split
  · rw [one_size]; omega
  · split
    · omega
    · rw [ByteArray.size_append, ByteArray.size_append, one_size]; omega
theorem rend_empty (v r d : ByteArray) (h : r.toList.isEmpty = true) : rend v r d = v ++ ⟨#[9, 45]⟩ := by
  apply ba_ext; rw [rend_data, app_data]; simp [rest, h]
theorem rend_none (v r : ByteArray) (h : r.toList.isEmpty = false) : rend v r ⟨#[]⟩ = v ++ ⟨#[9]⟩ ++ r := by
  apply ba_ext; rw [rend_data, app_data, app_data]
  simp [rest, h]
theorem rend_nil (d : ByteArray) (h : d.toList.isEmpty = true) : d = ⟨#[]⟩ := by
  rw [isEmpty_iff] at h; apply ba_ext; simp [h]
theorem rend_more (v r d1 d2 : ByteArray) (h : r.toList.isEmpty = false) (h1 : d1.toList.isEmpty = false) : rend v r (d1 ++ d2) = rend v r d1 ++ d2 := by
  have h2 : (d1 ++ d2).toList.isEmpty = false := by
    rw [← Bool.not_eq_true, isEmpty_iff, app_data] at *; simp; intro h; simp [h] at h1
  apply ba_ext; rw [rend_data, app_data, rend_data]
  simp [rest, h, h1, h2]
theorem rend_some (v r d : ByteArray) (h : r.toList.isEmpty = false) (h1 : d.toList.isEmpty = false) : rend v r d = v ++ ⟨#[9]⟩ ++ r ++ ⟨#[32]⟩ ++ d := by
  apply ba_ext; rw [rend_data, app_data, app_data, app_data, app_data]
  simp [rest, h, h1]
theorem string_nil (v r : ByteArray) (w : World) (hv : v.size ≤ 1000000) (hr : r.size ≤ 1000000) :
    Calls Try.prog 6 #[.agg #[.string v, .string r, .string ⟨#[]⟩]] w fun e w' => e = .returned (.string (rend v r ⟨#[]⟩)) ∧ w' = w.alloc (Obj.cells #[.string v, .string r, .string ⟨#[]⟩] 26) :=
  string_any v r ⟨#[]⟩ w hv hr (by decide)
theorem nil_app (a b : ByteArray) (h : a.toList.isEmpty = true) : a ++ b = b := by
  rw [isEmpty_iff] at h; apply ba_ext; rw [app_data, h]; simp

/-! ### STEP 1: THE WALK: the Go text returns true. 'Grown w w'': the world has at most new blocks (Derived/RowKit3.lean). Part the cases AHEAD of 'go_enter' where a test parts the walk; take each callee by a contract of your own. -/
set_option maxHeartbeats 2000000 in
theorem walk (a0 : ByteArray) (a1 : ByteArray) (a2 : ByteArray) (a3 : ByteArray) (w0 : a0.size ≤ maxLen) (w1 : a1.size ≤ maxLen) (w2 : a2.size ≤ maxLen) (w3 : a3.size ≤ maxLen) (w : World) :
    Calls Try.prog 4 #[.string a0, .string a1, .string a2, .string a3] w fun e w' => e = .returned (.bool true) ∧ Grown w w' := by
  by_cases g0 : a0.size ≤ 262144
  case neg =>
    unfold maxLen at w0 w1 w2 w3
    go_enter Try.func4, Try.ntmps4
    go_wp2_with (go_at_call 8; refine (bytes8_any _ _ _ _ _ w0 w1 w2 w3).mono ?_; rintro e w' ⟨⟨q, rfl⟩, h⟩; obtain rfl := h.symm)
    all_goals (go_ret; exact ⟨rfl, by repeat (first | with_reducible exact Grown.refl _ | with_reducible apply Grown.alloc | with_reducible apply Grown.drew)⟩)
  by_cases g1 : a1.size ≤ 262144
  case neg =>
    unfold maxLen at w0 w1 w2 w3
    go_enter Try.func4, Try.ntmps4
    go_wp2_with (go_at_call 8; refine (bytes8_any _ _ _ _ _ w0 w1 w2 w3).mono ?_; rintro e w' ⟨⟨q, rfl⟩, h⟩; obtain rfl := h.symm)
    all_goals (go_ret; exact ⟨rfl, by repeat (first | with_reducible exact Grown.refl _ | with_reducible apply Grown.alloc | with_reducible apply Grown.drew)⟩)
  by_cases g2 : a2.size ≤ 262144
  case neg =>
    unfold maxLen at w0 w1 w2 w3
    go_enter Try.func4, Try.ntmps4
    go_wp2_with (go_at_call 8; refine (bytes8_any _ _ _ _ _ w0 w1 w2 w3).mono ?_; rintro e w' ⟨⟨q, rfl⟩, h⟩; obtain rfl := h.symm)
    all_goals (go_ret; exact ⟨rfl, by repeat (first | with_reducible exact Grown.refl _ | with_reducible apply Grown.alloc | with_reducible apply Grown.drew)⟩)
  by_cases g3 : a3.size ≤ 262144
  case neg =>
    unfold maxLen at w0 w1 w2 w3
    go_enter Try.func4, Try.ntmps4
    go_wp2_with (go_at_call 8; refine (bytes8_any _ _ _ _ _ w0 w1 w2 w3).mono ?_; rintro e w' ⟨⟨q, rfl⟩, h⟩; obtain rfl := h.symm)
    all_goals (go_ret; exact ⟨rfl, by repeat (first | with_reducible exact Grown.refl _ | with_reducible apply Grown.alloc | with_reducible apply Grown.drew)⟩)
  have hj : (a2 ++ a3).size ≤ 1000000 := by rw [ByteArray.size_append]; omega
  cases hr : a1.toList.isEmpty
  · have e0 := rend_none a0 a1 hr
    have b0 := rend_bd a0 a1 ⟨#[]⟩
    cases h1 : a2.toList.isEmpty
    · have e1 := rend_more a0 a1 a2 a3 hr h1
      have b1 := rend_bd a0 a1 a2
      have b2 := rend_bd a0 a1 (a2 ++ a3)
      go_enter Try.func4, Try.ntmps4
      go_wp2_with (first | (go_at_call 8; refine (bytes8_any _ _ _ _ _ w0 w1 w2 w3).mono ?_; rintro e w' ⟨⟨q, rfl⟩, h⟩; obtain rfl := h.symm) | (go_at_call_of 6 (Value.string (ByteArray.mk #[])); refine (string_nil _ _ _ (by omega) (by omega)).mono ?_; rintro e w' ⟨rfl, rfl⟩) | (go_at_call 6; refine (string_any _ _ _ _ (by omega) (by omega) (by omega)).mono ?_; rintro e w' ⟨rfl, rfl⟩))
      all_goals (go_ret; exact ⟨rfl, by repeat (first | with_reducible exact Grown.refl _ | with_reducible apply Grown.alloc | with_reducible apply Grown.drew)⟩)
    · have e4 := nil_app a2 a3 h1
      cases h2 : a3.toList.isEmpty
      · have e2 := rend_some a0 a1 a3 hr h2
        go_enter Try.func4, Try.ntmps4
        go_wp2_with (first | (go_at_call 8; refine (bytes8_any _ _ _ _ _ w0 w1 w2 w3).mono ?_; rintro e w' ⟨⟨q, rfl⟩, h⟩; obtain rfl := h.symm) | (go_at_call_of 6 (Value.string (ByteArray.mk #[])); refine (string_nil _ _ _ (by omega) (by omega)).mono ?_; rintro e w' ⟨rfl, rfl⟩) | (go_at_call 6; refine (string_any _ _ _ _ (by omega) (by omega) (by omega)).mono ?_; rintro e w' ⟨rfl, rfl⟩))
        all_goals (go_ret; exact ⟨rfl, by repeat (first | with_reducible exact Grown.refl _ | with_reducible apply Grown.alloc | with_reducible apply Grown.drew)⟩)
      · obtain rfl := rend_nil a3 h2
        go_enter Try.func4, Try.ntmps4
        go_wp2_with (first | (go_at_call 8; refine (bytes8_any _ _ _ _ _ w0 w1 w2 w3).mono ?_; rintro e w' ⟨⟨q, rfl⟩, h⟩; obtain rfl := h.symm) | (go_at_call_of 6 (Value.string (ByteArray.mk #[])); refine (string_nil _ _ _ (by omega) (by omega)).mono ?_; rintro e w' ⟨rfl, rfl⟩) | (go_at_call 6; refine (string_any _ _ _ _ (by omega) (by omega) (by omega)).mono ?_; rintro e w' ⟨rfl, rfl⟩))
        all_goals (go_ret; exact ⟨rfl, by repeat (first | with_reducible exact Grown.refl _ | with_reducible apply Grown.alloc | with_reducible apply Grown.drew)⟩)
  · have e1 := rend_empty a0 a1 (a2 ++ a3) hr
    have e2 := rend_empty a0 a1 a2 hr
    have e3 := rend_empty a0 a1 ⟨#[]⟩ hr
    go_enter Try.func4, Try.ntmps4
    go_wp2_with (first | (go_at_call 8; refine (bytes8_any _ _ _ _ _ w0 w1 w2 w3).mono ?_; rintro e w' ⟨⟨q, rfl⟩, h⟩; obtain rfl := h.symm) | (go_at_call_of 6 (Value.string (ByteArray.mk #[])); refine (string_nil _ _ _ (by omega) (by omega)).mono ?_; rintro e w' ⟨rfl, rfl⟩) | (go_at_call 6; refine (string_any _ _ _ _ (by omega) (by omega) (by omega)).mono ?_; rintro e w' ⟨rfl, rfl⟩))
    all_goals (go_ret; exact ⟨rfl, by repeat (first | with_reducible exact Grown.refl _ | with_reducible apply Grown.alloc | with_reducible apply Grown.drew)⟩)


/-! ### THE ROW's STEP: WRITTEN OUT: LEAVE IT -/
set_option maxRecDepth 100000 in
theorem lifted (os : Os) (started : os.Started) (H : Type) (enc : TypeId × Value → H) :
    ReturnsInHanded {} Try.checked os 4 .any (Rows.fnStringDetailSplitsSpec.pre6 enc Try.prog Try.f4 Rows.fnStringDetailSplitsRow.domain false) (Rows.fnStringDetailSplitsSpec.post enc Try.prog Try.f4 false true false false) := by
  refine returnsInHanded_of_change (C := Try.checked) own started (by kernel_rfl) Try.func4
    (ChangeSpec.witness6 (enc := enc) (C := Try.checked) false ⟨#[], #[.string ByteArray.empty, .string ByteArray.empty, .string ByteArray.empty, .string ByteArray.empty], []⟩ 8 (by kernel_rfl) (by kernel_rfl) (by kernel_rfl) (by kernel_rfl)) ?_
  intro W base args ds gs before hval0 hW hcnd _
  have hval : ∀ (j : Nat) t v, Try.f4.params[j]? = some t → args[j]? = some v → Value.okWide Try.prog W .any base t v := hval0
  have hW' := hW
  obtain ⟨p, q, hA0, hV, rfl, hfz, hnd⟩ := hW
  have hA : DataW.TrodAll enc Try.prog W 0 (fun _ => true) true Try.f4.params.toList args.toList ds p := hA0
  rw [Try.params4] at hA hval
  obtain ⟨v0, vs0, d0, ds0, p0, q0, hargs, rfl, rfl, h0, r0⟩ := trodAll_cons hA
  obtain ⟨v1, vs1, d1, ds1, p1, q1, rfl, rfl, rfl, h1, r1⟩ := trodAll_cons r0
  obtain ⟨v2, vs2, d2, ds2, p2, q2, rfl, rfl, rfl, h2, r2⟩ := trodAll_cons r1
  obtain ⟨v3, vs3, d3, ds3, p3, q3, rfl, rfl, rfl, h3, r3⟩ := trodAll_cons r2
  obtain ⟨rfl, rfl, rfl⟩ := trodAll_nil r3
  obtain rfl : args = #[v0, v1, v2, v3] := by cases args; simp_all
  obtain ⟨rfl, rfl⟩ := trodVars_none hV
  obtain ⟨a0, rfl, rfl, rfl, w0⟩ := open_string Try.underlying9 (hval 0 9 v0 rfl rfl) h0
  obtain ⟨a1, rfl, rfl, rfl, w1⟩ := open_string Try.underlying9 (hval 1 9 v1 rfl rfl) h1
  obtain ⟨a2, rfl, rfl, rfl, w2⟩ := open_string Try.underlying9 (hval 2 9 v2 rfl rfl) h2
  obtain ⟨a3, rfl, rfl, rfl, w3⟩ := open_string Try.underlying9 (hval 3 9 v3 rfl rfl) h3
  clear hA0 hval0
  simp only [List.append_nil] at hW'
  refine (walk a0 a1 a2 a3 w0 w1 w2 w3 W).mono fun e W' ⟨he, hg⟩ => ?_
  subst he
  exact ⟨_, rfl, post_of_same (pa := []) (pv := []) hW' (fun _ _ _ => (trodAll_cons_mk (shut_bool Try.underlying4 _) trodAll_mk0)) (fun sp _ => (trodAll_cons_mk (shut_string Try.underlying9 w0) (trodAll_cons_mk (shut_string Try.underlying9 w1) (trodAll_cons_mk (shut_string Try.underlying9 w2) (trodAll_cons_mk (shut_string Try.underlying9 w3) trodAll_mk0))))) (fun _ _ => rfl) rfl
    (hg.frame _) hg.2.1 (ok_one (by kernel_rfl) rfl (okWide_bool_mk Try.underlying4 _))⟩

theorem over : Rows.fnStringDetailSplitsRow.holds Try.pinned (OpenSpec.ofChange Rows.fnStringDetailSplitsSpec) :=
  OpenClaim.holds_of_wide 4 Try.f4 rfl rfl rfl rfl rfl rfl rfl ⟨rfl, rfl, rfl, rfl, rfl⟩ rfl rfl rfl rfl rfl (by kernel_rfl) Try.func4 (by kernel_rfl)
    (of_decide_eq_true (by kernel_rfl)) (by unfold Func.isWrapper; first | (rw [if_pos (by decide +kernel)]; kernel_rfl) | (rw [if_neg (by decide +kernel)]; exact ⟨rfl, rfl⟩))
    (fun os started H enc _ => lifted os started H enc)

/-- ████ THE STATEMENT ████ -/
theorem proved : Rows.FnStringDetailSplitsSaid :=
  over
end Go.Proofs.Qxb6630737a.fnStringDetailSplits

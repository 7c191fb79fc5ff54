/-
  The proof of 'Rows.FnStringVerdictPrefixAndRestSaid': the frame is the guide's shell; the walk is typed by hand over the contracts.
-/
import Derived.Test.Qxb6630737aContracts
import Derived.Deep.RegionWith
import Derived.Test.Qxb6630737aRows
import Derived.WalkKit
import Derived.ProofKit
import Derived.OpenShut
import Derived.ShutString
namespace Go.Proofs.Qxb6630737a.fnStringVerdictPrefixAndRest
open Go.ChangeShapes Go.WideShapes Go.ChangeAt Go.RowKit
open Go.ChangeMaps (open_string shut_string)
set_option linter.unusedVariables false      -- a walk need not use every 'w<i>' (that an integer argument fits its kind)

theorem own : ownKnob Try.prog.godebug = none := by kernel_rfl

theorem one_size (c : UInt8) : (ByteArray.mk #[c]).size = 1 := rfl
theorem rest_size (r d : ByteArray) : (rest r d).size ≤ r.size + d.size + 1 := by
  unfold rest; split
  · rw [one_size]; omega
  · split
    · omega
    · rw [ByteArray.size_append, ByteArray.size_append, one_size]; omega
theorem rest_empty (r d : ByteArray) (h : r.toList.isEmpty = true) : rest r d = ⟨#[45]⟩ := by simp [rest, h]
theorem rest_ge (r d : ByteArray) (h : r.toList.isEmpty = false) : r.size ≤ (rest r d).size := by
  unfold rest; rw [if_neg (by simp [h])]; split
  · omega
  · simp
theorem rest_head (r d : ByteArray) (h : r.toList.isEmpty = false) : (rest r d).extract 0 r.size = r := by
  unfold rest; rw [if_neg (by simp [h])]; split
  · apply ba_ext; rw [Lib.extract_data, Lib.size_eq]; generalize r.data.toList = l; simp
  · apply ba_ext; rw [Lib.extract_data, Lib.size_eq, app_data]; generalize r.data.toList = l; simp

/-! ### STEP 1: THE WALK: the Go text returns true. 'Grown w w'': the world has at most new blocks (Derived/RowKit3.lean). Part the cases AHEAD of 'go_enter' where a test parts the walk; take each callee by a contract of your own. -/
set_option maxHeartbeats 2000000 in
theorem walk (a0 : ByteArray) (a1 : ByteArray) (a2 : ByteArray) (a3 : ByteArray) (w0 : a0.size ≤ maxLen) (w1 : a1.size ≤ maxLen) (w2 : a2.size ≤ maxLen) (w3 : a3.size ≤ maxLen) (w : World) :
    Calls Try.prog 3 #[.string a0, .string a1, .string a2, .string a3] w fun e w' => e = .returned (.bool true) ∧ Grown w w' := by
  by_cases g0 : a0.size ≤ 262144
  case neg =>
    unfold maxLen at w0 w1 w2 w3
    go_enter Try.func3, Try.ntmps3
    go_wp2_with (go_at_call 5; refine (bytes5_any _ _ _ _ _ w0 w1 w2 w3).mono ?_; rintro e w' ⟨⟨q, rfl⟩, h⟩; obtain rfl := h.symm)
    all_goals (go_ret; exact ⟨rfl, by repeat (first | with_reducible exact Grown.refl _ | with_reducible apply Grown.alloc | with_reducible apply Grown.drew)⟩)
  by_cases g1 : a1.size ≤ 262144
  case neg =>
    unfold maxLen at w0 w1 w2 w3
    go_enter Try.func3, Try.ntmps3
    go_wp2_with (go_at_call 5; refine (bytes5_any _ _ _ _ _ w0 w1 w2 w3).mono ?_; rintro e w' ⟨⟨q, rfl⟩, h⟩; obtain rfl := h.symm)
    all_goals (go_ret; exact ⟨rfl, by repeat (first | with_reducible exact Grown.refl _ | with_reducible apply Grown.alloc | with_reducible apply Grown.drew)⟩)
  by_cases g2 : a2.size ≤ 262144
  case neg =>
    unfold maxLen at w0 w1 w2 w3
    go_enter Try.func3, Try.ntmps3
    go_wp2_with (go_at_call 5; refine (bytes5_any _ _ _ _ _ w0 w1 w2 w3).mono ?_; rintro e w' ⟨⟨q, rfl⟩, h⟩; obtain rfl := h.symm)
    all_goals (go_ret; exact ⟨rfl, by repeat (first | with_reducible exact Grown.refl _ | with_reducible apply Grown.alloc | with_reducible apply Grown.drew)⟩)
  by_cases g3 : a3.size ≤ 262144
  case neg =>
    unfold maxLen at w0 w1 w2 w3
    go_enter Try.func3, Try.ntmps3
    go_wp2_with (go_at_call 5; refine (bytes5_any _ _ _ _ _ w0 w1 w2 w3).mono ?_; rintro e w' ⟨⟨q, rfl⟩, h⟩; obtain rfl := h.symm)
    all_goals (go_ret; exact ⟨rfl, by repeat (first | with_reducible exact Grown.refl _ | with_reducible apply Grown.alloc | with_reducible apply Grown.drew)⟩)
  have hr := rest_size a2 a3
  have z1 := rend_size a0 a2 a3
  have z2 := rend_size a1 a2 a3
  have s1 : a0.size < (rend a0 a2 a3).size := by omega
  have s2 : a1.size < (rend a1 a2 a3).size := by omega
  have u1 : (rend a0 a2 a3).size ≤ 1000000 := by omega
  have u2 : (rend a1 a2 a3).size ≤ 1000000 := by omega
  have t1 : a0.size + 1 ≤ (rend a0 a2 a3).size := by omega
  have t2 : a1.size + 1 ≤ (rend a1 a2 a3).size := by omega
  have hr2 : (rest a2 a3).size ≤ 600000 := by omega
  have x1 := rend_rest a0 a2 a3
  have x2 := rend_rest a1 a2 a3
  clear z1 z2 hr
  cases he : a2.toList.isEmpty
  · have r1 := rest_head a2 a3 he
    have r2 := rest_ge a2 a3 he
    go_enter Try.func3, Try.ntmps3
    go_wp2_with (first | (go_at_call 5; refine (bytes5_any _ _ _ _ _ w0 w1 w2 w3).mono ?_; rintro e w' ⟨⟨q, rfl⟩, h⟩; obtain rfl := h.symm) | (go_at_call 6; refine (string_any _ _ _ _ (by omega) (by omega) (by omega)).mono ?_; rintro e w' ⟨rfl, rfl⟩) | (go_at_call_of 7 (Value.string a0); refine (tab_yes _ _ _ (by omega) s1 (rend_head _ _ _) (rend_tab _ _ _ _)).mono ?_; rintro e w' ⟨rfl, rfl⟩) | (go_at_call_of 7 (Value.string a1); refine (tab_yes _ _ _ (by omega) s2 (rend_head _ _ _) (rend_tab _ _ _ _)).mono ?_; rintro e w' ⟨rfl, rfl⟩))
    all_goals (go_ret; exact ⟨rfl, by repeat (first | with_reducible exact Grown.refl _ | with_reducible apply Grown.alloc | with_reducible apply Grown.drew)⟩)
  · have r1 := rest_empty a2 a3 he
    go_enter Try.func3, Try.ntmps3
    go_wp2_with (first | (go_at_call 5; refine (bytes5_any _ _ _ _ _ w0 w1 w2 w3).mono ?_; rintro e w' ⟨⟨q, rfl⟩, h⟩; obtain rfl := h.symm) | (go_at_call 6; refine (string_any _ _ _ _ (by omega) (by omega) (by omega)).mono ?_; rintro e w' ⟨rfl, rfl⟩) | (go_at_call_of 7 (Value.string a0); refine (tab_yes _ _ _ (by omega) s1 (rend_head _ _ _) (rend_tab _ _ _ _)).mono ?_; rintro e w' ⟨rfl, rfl⟩) | (go_at_call_of 7 (Value.string a1); refine (tab_yes _ _ _ (by omega) s2 (rend_head _ _ _) (rend_tab _ _ _ _)).mono ?_; rintro e w' ⟨rfl, rfl⟩))
    all_goals (go_ret; exact ⟨rfl, by repeat (first | with_reducible exact Grown.refl _ | with_reducible apply Grown.alloc | with_reducible apply Grown.drew)⟩)

/-! ### THE ROW's STEP: WRITTEN OUT: LEAVE IT -/
set_option maxRecDepth 100000 in
theorem lifted (os : Os) (started : os.Started) (H : Type) (enc : TypeId × Value → H) :
    ReturnsInHanded {} Try.checked os 3 .any (Rows.fnStringVerdictPrefixAndRestSpec.pre6 enc Try.prog Try.f3 Rows.fnStringVerdictPrefixAndRestRow.domain false) (Rows.fnStringVerdictPrefixAndRestSpec.post enc Try.prog Try.f3 false true false false) := by
  refine returnsInHanded_of_change (C := Try.checked) own started (by kernel_rfl) Try.func3
    (ChangeSpec.witness6 (enc := enc) (C := Try.checked) false ⟨#[], #[.string ByteArray.empty, .string ByteArray.empty, .string ByteArray.empty, .string ByteArray.empty], []⟩ 8 (by kernel_rfl) (by kernel_rfl) (by kernel_rfl) (by kernel_rfl)) ?_
  intro W base args ds gs before hval0 hW hcnd _
  have hval : ∀ (j : Nat) t v, Try.f3.params[j]? = some t → args[j]? = some v → Value.okWide Try.prog W .any base t v := hval0
  have hW' := hW
  obtain ⟨p, q, hA0, hV, rfl, hfz, hnd⟩ := hW
  have hA : DataW.TrodAll enc Try.prog W 0 (fun _ => true) true Try.f3.params.toList args.toList ds p := hA0
  rw [Try.params3] at hA hval
  obtain ⟨v0, vs0, d0, ds0, p0, q0, hargs, rfl, rfl, h0, r0⟩ := trodAll_cons hA
  obtain ⟨v1, vs1, d1, ds1, p1, q1, rfl, rfl, rfl, h1, r1⟩ := trodAll_cons r0
  obtain ⟨v2, vs2, d2, ds2, p2, q2, rfl, rfl, rfl, h2, r2⟩ := trodAll_cons r1
  obtain ⟨v3, vs3, d3, ds3, p3, q3, rfl, rfl, rfl, h3, r3⟩ := trodAll_cons r2
  obtain ⟨rfl, rfl, rfl⟩ := trodAll_nil r3
  obtain rfl : args = #[v0, v1, v2, v3] := by cases args; simp_all
  obtain ⟨rfl, rfl⟩ := trodVars_none hV
  obtain ⟨a0, rfl, rfl, rfl, w0⟩ := open_string Try.underlying9 (hval 0 9 v0 rfl rfl) h0
  obtain ⟨a1, rfl, rfl, rfl, w1⟩ := open_string Try.underlying9 (hval 1 9 v1 rfl rfl) h1
  obtain ⟨a2, rfl, rfl, rfl, w2⟩ := open_string Try.underlying9 (hval 2 9 v2 rfl rfl) h2
  obtain ⟨a3, rfl, rfl, rfl, w3⟩ := open_string Try.underlying9 (hval 3 9 v3 rfl rfl) h3
  clear hA0 hval0
  simp only [List.append_nil] at hW'
  refine (walk a0 a1 a2 a3 w0 w1 w2 w3 W).mono fun e W' ⟨he, hg⟩ => ?_
  subst he
  exact ⟨_, rfl, post_of_same (pa := []) (pv := []) hW' (fun _ _ _ => (trodAll_cons_mk (shut_bool Try.underlying4 _) trodAll_mk0)) (fun sp _ => (trodAll_cons_mk (shut_string Try.underlying9 w0) (trodAll_cons_mk (shut_string Try.underlying9 w1) (trodAll_cons_mk (shut_string Try.underlying9 w2) (trodAll_cons_mk (shut_string Try.underlying9 w3) trodAll_mk0))))) (fun _ _ => rfl) rfl
    (hg.frame _) hg.2.1 (ok_one (by kernel_rfl) rfl (okWide_bool_mk Try.underlying4 _))⟩

theorem over : Rows.fnStringVerdictPrefixAndRestRow.holds Try.pinned (OpenSpec.ofChange Rows.fnStringVerdictPrefixAndRestSpec) :=
  OpenClaim.holds_of_wide 3 Try.f3 rfl rfl rfl rfl rfl rfl rfl ⟨rfl, rfl, rfl, rfl, rfl⟩ rfl rfl rfl rfl rfl (by kernel_rfl) Try.func3 (by kernel_rfl)
    (of_decide_eq_true (by kernel_rfl)) (by unfold Func.isWrapper; first | (rw [if_pos (by decide +kernel)]; kernel_rfl) | (rw [if_neg (by decide +kernel)]; exact ⟨rfl, rfl⟩))
    (fun os started H enc _ => lifted os started H enc)

/-- ████ THE STATEMENT ████ -/
theorem proved : Rows.FnStringVerdictPrefixAndRestSaid :=
  over
end Go.Proofs.Qxb6630737a.fnStringVerdictPrefixAndRest

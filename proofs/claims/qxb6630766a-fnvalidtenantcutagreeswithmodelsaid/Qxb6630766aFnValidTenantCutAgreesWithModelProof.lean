/-
  The proof of 'Rows.FnValidTenantCutAgreesWithModelSaid': the frame is the guide's shell; the walk is typed by hand over the contracts.
-/
import Derived.Test.Qxb6630766aContracts
import Derived.Deep.RegionWith
import Derived.Test.Qxb6630766aRows
import Derived.WalkKit
import Derived.ProofKit
import Derived.OpenShut
import Derived.ShutString
namespace Go.Proofs.Qxb6630766a.fnValidTenantCutAgreesWithModel
open Go.ChangeShapes Go.WideShapes Go.ChangeAt Go.RowKit
open Go.ChangeMaps (open_string shut_string)
set_option linter.unusedVariables false      -- a walk need not use every 'w<i>' (that an integer argument fits its kind)

theorem own : ownKnob Try.prog.godebug = none := by kernel_rfl

theorem ba_ext {a b : ByteArray} (h : a.data.toList = b.data.toList) : a = b := by
  cases a; cases b; simp at h; simp [h]
theorem app_data (a b : ByteArray) : (a ++ b).data.toList = a.data.toList ++ b.data.toList := by
  simp [ByteArray.data_append]
theorem nil_app (a b : ByteArray) (h : a.size = 0) : a ++ b = b := by
  rw [Lib.size_eq, List.length_eq_zero_iff] at h; apply ba_ext; rw [app_data, h]; simp
theorem app_nil (a b : ByteArray) (h : b.size = 0) : a ++ b = a := by
  rw [Lib.size_eq, List.length_eq_zero_iff] at h; apply ba_ext; rw [app_data, h]; simp
theorem byte_app (a b : ByteArray) (j : Nat) : byte (a ++ b) j = if j < a.size then byte a j else byte b (j - a.size) := by
  unfold byte; rw [app_data, Lib.size_eq]
  generalize a.data.toList = l
  split
  · rename_i h; rw [List.getD_eq_getElem?_getD, List.getD_eq_getElem?_getD, List.getElem?_append_left h]
  · rename_i h; rw [List.getD_eq_getElem?_getD, List.getD_eq_getElem?_getD, List.getElem?_append_right (by omega)]
theorem head_size (a : ByteArray) (h : 1 ≤ a.size) : (a.extract 0 1).size = 1 := by
  rw [ByteArray.size_extract]; omega
theorem byte_head (a : ByteArray) (h : 1 ≤ a.size) : byte (a.extract 0 1) 0 = byte a 0 := by
  unfold byte; rw [Lib.extract_data]
  rw [Lib.size_eq] at h
  revert h; cases a.data.toList <;> simp
theorem vt_long (a b : ByteArray) (h : ¬ a.size + b.size ≤ 64) : vt (a ++ b) = false := by
  unfold vt; rw [ByteArray.size_append]; simp; omega
theorem vt_iff (s : ByteArray) : vt s = true ↔ (1 ≤ s.size ∧ s.size ≤ 64 ∧ alnum (byte s 0) = true ∧ ∀ j, 0 < j → j < s.size → tailb (byte s j) = true) := by
  unfold vt; rw [Bool.and_eq_true, decide_eq_true_eq, good_iff]
  constructor
  · rintro ⟨⟨h1, h2⟩, h⟩
    exact ⟨h1, h2, by rw [← okc_zero]; exact h 0 (by omega), fun j hj hs => by rw [← okc_pos j _ hj]; exact h j hs⟩
  · rintro ⟨h1, h2, h3, h4⟩
    refine ⟨⟨h1, h2⟩, fun j hj => ?_⟩
    by_cases h0 : 0 < j
    · rw [okc_pos j _ h0]; exact h4 j h0 hj
    · obtain rfl : j = 0 := by omega
      rw [okc_zero]; exact h3
theorem vt_cut (a b : ByteArray) (h1 : 1 ≤ a.size) (h2 : a.size + b.size ≤ 64) (h3 : 1 ≤ b.size) : vt (a ++ b) = (vt a && vt (a.extract 0 1 ++ b)) := by
  rw [Bool.eq_iff_iff, Bool.and_eq_true, vt_iff, vt_iff, vt_iff]
  simp only [byte_app, ByteArray.size_append, head_size a h1, byte_head a h1]
  rw [if_pos (by omega)]
  constructor
  · rintro ⟨-, -, p, q⟩
    refine ⟨⟨h1, by omega, p, fun j hj hs => ?_⟩, by omega, by omega, ?_, fun j hj hs => ?_⟩
    · have := q j hj (by omega); rwa [if_pos hs] at this
    · simpa [byte_head a h1] using p
    · have := q (j + a.size - 1) (by omega) (by omega)
      rw [if_neg (by omega)] at this
      rw [if_neg (by omega)]
      rwa [show j + a.size - 1 - a.size = j - 1 by omega] at this
  · rintro ⟨⟨-, -, p, q⟩, -, -, -, r⟩
    refine ⟨by omega, h2, p, fun j hj hs => ?_⟩
    split
    · exact q j hj (by assumption)
    · have := r (j - a.size + 1) (by omega) (by omega)
      rw [if_neg (by omega)] at this
      rwa [show j - a.size + 1 - 1 = j - a.size by omega] at this

/-! ### STEP 1: THE WALK: the Go text returns true. 'Grown w w'': the world has at most new blocks (Derived/RowKit3.lean). Part the cases AHEAD of 'go_enter' where a test parts the walk; take each callee by a contract of your own. -/
set_option maxHeartbeats 2000000 in
theorem walk (a0 : ByteArray) (a1 : ByteArray) (w0 : a0.size ≤ maxLen) (w1 : a1.size ≤ maxLen) (w : World) :
    Calls Try.prog 3 #[.string a0, .string a1] w fun e w' => e = .returned (.bool true) ∧ Grown w w' := by
  by_cases g0 : a0.size ≤ 65536
  case neg =>
    unfold maxLen at w0 w1
    go_enter Try.func3, Try.ntmps3
    go_wp2_with (go_at_call 5; refine (bytes5_any _ _ _ w0 w1).mono ?_; rintro e w' ⟨⟨q, rfl⟩, h⟩; obtain rfl := h.symm)
    all_goals (go_ret; exact ⟨rfl, by repeat (first | with_reducible exact Grown.refl _ | with_reducible apply Grown.alloc | with_reducible apply Grown.drew)⟩)
  by_cases g1 : a1.size ≤ 65536
  case neg =>
    unfold maxLen at w0 w1
    go_enter Try.func3, Try.ntmps3
    go_wp2_with (go_at_call 5; refine (bytes5_any _ _ _ w0 w1).mono ?_; rintro e w' ⟨⟨q, rfl⟩, h⟩; obtain rfl := h.symm)
    all_goals (go_ret; exact ⟨rfl, by repeat (first | with_reducible exact Grown.refl _ | with_reducible apply Grown.alloc | with_reducible apply Grown.drew)⟩)
  have hj : (a0 ++ a1).size ≤ 1000000 := by rw [ByteArray.size_append]; omega
  have hx : (a0.extract 0 1 ++ a1).size ≤ 1000000 := by rw [ByteArray.size_append, ByteArray.size_extract]; omega
  by_cases h0 : a0.size = 0
  · have he : a0.toList.isEmpty = true := by rw [empty_iff]; exact decide_eq_true h0
    have e : a0 ++ a1 = a1 := nil_app a0 a1 h0
    clear h0 hx hj
    go_enter Try.func3, Try.ntmps3
    go_wp2_with (first | (go_at_call 5; refine (bytes5_any _ _ _ w0 w1).mono ?_; rintro e w' ⟨⟨q, rfl⟩, h⟩; obtain rfl := h.symm) | (go_at_call 6; refine (valid_any _ _ (by omega)).mono ?_; rintro e w' ⟨rfl, h⟩; obtain rfl := h.symm) | (go_at_call 7; refine (model_any _ _ (by omega)).mono ?_; rintro e w' ⟨rfl, h⟩; obtain rfl := h.symm))
    all_goals (go_ret; exact ⟨rfl, by repeat (first | with_reducible exact Grown.refl _ | with_reducible apply Grown.alloc | with_reducible apply Grown.drew)⟩)
  have he : a0.toList.isEmpty = false := by rw [empty_iff]; exact decide_eq_false h0
  have h1 : 1 ≤ a0.size := by omega
  by_cases hl : a0.size + a1.size ≤ 64
  · have hl' : (a0.size : Int) + (a1.size : Int) ≤ 64 := by omega
    have hd : decide ((a0.size : Int) + (a1.size : Int) ≤ 64) = true := decide_eq_true hl'
    by_cases hb : a1.size = 0
    · have hbe : a1.toList.isEmpty = true := by rw [empty_iff]; exact decide_eq_true hb
      have e : a0 ++ a1 = a0 := app_nil a0 a1 hb
      clear h0 hx hj
      cases hv : vt a0
      all_goals
        go_enter Try.func3, Try.ntmps3
        go_wp2_with (first | (go_at_call 5; refine (bytes5_any _ _ _ w0 w1).mono ?_; rintro e w' ⟨⟨q, rfl⟩, h⟩; obtain rfl := h.symm) | (go_at_call 6; refine (valid_any _ _ (by omega)).mono ?_; rintro e w' ⟨rfl, h⟩; obtain rfl := h.symm) | (go_at_call 7; refine (model_any _ _ (by omega)).mono ?_; rintro e w' ⟨rfl, h⟩; obtain rfl := h.symm))
        all_goals (go_ret; exact ⟨rfl, by repeat (first | with_reducible exact Grown.refl _ | with_reducible apply Grown.alloc | with_reducible apply Grown.drew)⟩)
    · have hbe : a1.toList.isEmpty = false := by rw [empty_iff]; exact decide_eq_false hb
      have e := vt_cut a0 a1 h1 hl (by omega)
      cases hv : vt a0
      · rw [hv, Bool.false_and] at e
        go_enter Try.func3, Try.ntmps3
        go_wp2_with (first | (go_at_call 5; refine (bytes5_any _ _ _ w0 w1).mono ?_; rintro e w' ⟨⟨q, rfl⟩, h⟩; obtain rfl := h.symm) | (go_at_call 6; refine (valid_any _ _ (by omega)).mono ?_; rintro e w' ⟨rfl, h⟩; obtain rfl := h.symm) | (go_at_call 7; refine (model_any _ _ (by omega)).mono ?_; rintro e w' ⟨rfl, h⟩; obtain rfl := h.symm))
        all_goals (go_ret; exact ⟨rfl, by repeat (first | with_reducible exact Grown.refl _ | with_reducible apply Grown.alloc | with_reducible apply Grown.drew)⟩)
      · rw [hv, Bool.true_and] at e
        go_enter Try.func3, Try.ntmps3
        go_wp2_with (first | (go_at_call 5; refine (bytes5_any _ _ _ w0 w1).mono ?_; rintro e w' ⟨⟨q, rfl⟩, h⟩; obtain rfl := h.symm) | (go_at_call 6; refine (valid_any _ _ (by omega)).mono ?_; rintro e w' ⟨rfl, h⟩; obtain rfl := h.symm) | (go_at_call 7; refine (model_any _ _ (by omega)).mono ?_; rintro e w' ⟨rfl, h⟩; obtain rfl := h.symm))
        all_goals (go_ret; exact ⟨rfl, by repeat (first | with_reducible exact Grown.refl _ | with_reducible apply Grown.alloc | with_reducible apply Grown.drew)⟩)
  · have hl' : ¬ (a0.size : Int) + (a1.size : Int) ≤ 64 := by omega
    have hd : decide ((a0.size : Int) + (a1.size : Int) ≤ 64) = false := decide_eq_false hl'
    have e := vt_long a0 a1 hl
    go_enter Try.func3, Try.ntmps3
    go_wp2_with (first | (go_at_call 5; refine (bytes5_any _ _ _ w0 w1).mono ?_; rintro e w' ⟨⟨q, rfl⟩, h⟩; obtain rfl := h.symm) | (go_at_call 6; refine (valid_any _ _ (by omega)).mono ?_; rintro e w' ⟨rfl, h⟩; obtain rfl := h.symm) | (go_at_call 7; refine (model_any _ _ (by omega)).mono ?_; rintro e w' ⟨rfl, h⟩; obtain rfl := h.symm))
    all_goals (go_ret; exact ⟨rfl, by repeat (first | with_reducible exact Grown.refl _ | with_reducible apply Grown.alloc | with_reducible apply Grown.drew)⟩)


/-! ### THE ROW's STEP: WRITTEN OUT: LEAVE IT -/
set_option maxRecDepth 100000 in
theorem lifted (os : Os) (started : os.Started) (H : Type) (enc : TypeId × Value → H) :
    ReturnsInHanded {} Try.checked os 3 .any (Rows.fnValidTenantCutAgreesWithModelSpec.pre6 enc Try.prog Try.f3 Rows.fnValidTenantCutAgreesWithModelRow.domain false) (Rows.fnValidTenantCutAgreesWithModelSpec.post enc Try.prog Try.f3 false true false false) := by
  refine returnsInHanded_of_change (C := Try.checked) own started (by kernel_rfl) Try.func3
    (ChangeSpec.witness6 (enc := enc) (C := Try.checked) false ⟨#[], #[.string ByteArray.empty, .string ByteArray.empty], []⟩ 8 (by kernel_rfl) (by kernel_rfl) (by kernel_rfl) (by kernel_rfl)) ?_
  intro W base args ds gs before hval0 hW hcnd _
  have hval : ∀ (j : Nat) t v, Try.f3.params[j]? = some t → args[j]? = some v → Value.okWide Try.prog W .any base t v := hval0
  have hW' := hW
  obtain ⟨p, q, hA0, hV, rfl, hfz, hnd⟩ := hW
  have hA : DataW.TrodAll enc Try.prog W 0 (fun _ => true) true Try.f3.params.toList args.toList ds p := hA0
  rw [Try.params3] at hA hval
  obtain ⟨v0, vs0, d0, ds0, p0, q0, hargs, rfl, rfl, h0, r0⟩ := trodAll_cons hA
  obtain ⟨v1, vs1, d1, ds1, p1, q1, rfl, rfl, rfl, h1, r1⟩ := trodAll_cons r0
  obtain ⟨rfl, rfl, rfl⟩ := trodAll_nil r1
  obtain rfl : args = #[v0, v1] := by cases args; simp_all
  obtain ⟨rfl, rfl⟩ := trodVars_none hV
  obtain ⟨a0, rfl, rfl, rfl, w0⟩ := open_string Try.underlying9 (hval 0 9 v0 rfl rfl) h0
  obtain ⟨a1, rfl, rfl, rfl, w1⟩ := open_string Try.underlying9 (hval 1 9 v1 rfl rfl) h1
  clear hA0 hval0
  simp only [List.append_nil] at hW'
  refine (walk a0 a1 w0 w1 W).mono fun e W' ⟨he, hg⟩ => ?_
  subst he
  exact ⟨_, rfl, post_of_same (pa := []) (pv := []) hW' (fun _ _ _ => (trodAll_cons_mk (shut_bool Try.underlying4 _) trodAll_mk0)) (fun sp _ => (trodAll_cons_mk (shut_string Try.underlying9 w0) (trodAll_cons_mk (shut_string Try.underlying9 w1) trodAll_mk0))) (fun _ _ => rfl) rfl
    (hg.frame _) hg.2.1 (ok_one (by kernel_rfl) rfl (okWide_bool_mk Try.underlying4 _))⟩

theorem over : Rows.fnValidTenantCutAgreesWithModelRow.holds Try.pinned (OpenSpec.ofChange Rows.fnValidTenantCutAgreesWithModelSpec) :=
  OpenClaim.holds_of_wide 3 Try.f3 rfl rfl rfl rfl rfl rfl rfl ⟨rfl, rfl, rfl, rfl, rfl⟩ rfl rfl rfl rfl rfl (by kernel_rfl) Try.func3 (by kernel_rfl)
    (of_decide_eq_true (by kernel_rfl)) (by unfold Func.isWrapper; first | (rw [if_pos (by decide +kernel)]; kernel_rfl) | (rw [if_neg (by decide +kernel)]; exact ⟨rfl, rfl⟩))
    (fun os started H enc _ => lifted os started H enc)

/-- ████ THE STATEMENT ████ -/
theorem proved : Rows.FnValidTenantCutAgreesWithModelSaid :=
  over
end Go.Proofs.Qxb6630766a.fnValidTenantCutAgreesWithModel

/-
  The proof of 'Rows.FnValidTenantSanitisedAcceptedAndSafeSaid': the frame is the guide's shell; the walk is typed by hand over the contracts.
-/
import Derived.Test.Qxb6630766aSanitise
import Derived.Deep.RegionWith
import Derived.Test.Qxb6630766aRows
import Derived.WalkKit
import Derived.ProofKit
import Derived.OpenShut
import Derived.ShutString
namespace Go.Proofs.Qxb6630766a.fnValidTenantSanitisedAcceptedAndSafe
open Go.ChangeShapes Go.WideShapes Go.ChangeAt Go.RowKit
open Go.ChangeMaps (open_string shut_string)
set_option linter.unusedVariables false      -- a walk need not use every 'w<i>' (that an integer argument fits its kind)

theorem own : ownKnob Try.prog.godebug = none := by kernel_rfl

theorem ba_ext {a b : ByteArray} (h : a.data.toList = b.data.toList) : a = b := by
  cases a; cases b; simp at h; simp [h]
theorem sanf_bd (s : ByteArray) (j : Nat) : 0 ≤ sanf s j ∧ sanf s j ≤ 255 := by
  have := san_bd s j; unfold sanf; split <;> omega
theorem san_size (s : ByteArray) : (strOfNums ((List.range s.size).map (sanf s))).size = s.size := by
  rw [strOfNums_size]; simp
theorem san_byte (s : ByteArray) (j : Nat) (h : j < s.size) : byte (strOfNums ((List.range s.size).map (sanf s))) j = sanf s j := by
  have hb := sanf_bd s j
  unfold byte strOfNums
  simp [List.getD, h]
  omega
theorem san_tail (s : ByteArray) (j : Nat) : tailb (san s j) = true := by
  unfold san; split
  · assumption
  · decide
theorem san_vt (s : ByteArray) : vt (strOfNums ((List.range s.size).map (sanf s))) = decide (1 ≤ s.size ∧ s.size ≤ 64) := by
  unfold vt
  rw [san_size]
  by_cases h : 1 ≤ s.size ∧ s.size ≤ 64
  · rw [decide_eq_true h, Bool.true_and, good_iff]
    intro j hj
    rw [san_byte s j hj]
    by_cases h0 : 0 < j
    · rw [okc_pos j _ h0]; unfold sanf; rw [if_neg (by omega)]; exact san_tail s j
    · obtain rfl : j = 0 := by omega
      rw [okc_zero]; unfold sanf
      cases ha : alnum (san s 0)
      · simp; decide
      · simp [ha]
  · rw [decide_eq_false h, Bool.false_and]
theorem vt_size (s : ByteArray) (h : vt s = true) : 1 ≤ s.size ∧ s.size ≤ 64 := by
  unfold vt at h; rw [Bool.and_eq_true, decide_eq_true_eq] at h; exact h.1
theorem vt_tail (s : ByteArray) (h : vt s = true) (k : Nat) (hk : k < s.size) : tailb (byte s k) = true := by
  unfold vt at h; rw [Bool.and_eq_true, good_iff] at h
  have := h.2 k hk
  by_cases h0 : 0 < k
  · rwa [okc_pos k _ h0] at this
  · obtain rfl : k = 0 := by omega
    rw [okc_zero] at this; exact alnum_tail _ this
theorem vt_sanf (s : ByteArray) (h : vt s = true) (k : Nat) (hk : k < s.size) : sanf s k = byte s k := by
  have e : ∀ j, j < s.size → san s j = byte s j := fun j hj => by unfold san; rw [if_pos (vt_tail s h j hj)]
  unfold sanf; rw [if_neg, e k hk]
  rintro ⟨rfl, ha⟩
  rw [e 0 hk] at ha
  unfold vt at h; rw [Bool.and_eq_true, good_iff] at h
  have := h.2 0 hk
  rw [okc_zero, ha] at this; exact absurd this (by decide)
theorem vt_same (s : ByteArray) (h : vt s = true) : strOfNums ((List.range s.size).map (sanf s)) = s := by
  apply ba_ext
  apply List.ext_getElem
  · rw [← Lib.size_eq, ← Lib.size_eq, san_size]
  · intro j h1 h2
    have hj : j < s.size := by rw [Lib.size_eq]; exact h2
    have e1 := san_byte s j hj
    rw [vt_sanf s h j hj] at e1
    unfold byte at e1
    rw [List.getD_eq_getElem?_getD, List.getD_eq_getElem?_getD, List.getElem?_eq_getElem h1, List.getElem?_eq_getElem h2] at e1
    apply UInt8.toNat_inj.1
    simp only [Option.getD_some] at e1
    omega
theorem san_two (s : ByteArray) (w : World) (hs : s.size ≤ 1000000) :
    Calls Try.prog 9 #[.string s] w fun e w' => (∃ t : ByteArray, e = .returned (.string t) ∧ t.size ≤ 1000000 ∧ vt t = decide (1 ≤ s.size ∧ s.size ≤ 64)) ∧ ∃ c, w' = w.alloc (.cells c 5) :=
  (san_any s w hs).mono fun e w' ⟨⟨t, he, ht⟩, hw⟩ => ⟨⟨t, he, by rw [ht, san_size]; exact hs, by rw [ht, san_vt]⟩, hw⟩
theorem san_good (s : ByteArray) (w : World) (hs : s.size ≤ 1000000) (hv : vt s = true) :
    Calls Try.prog 9 #[.string s] w fun e w' => e = .returned (.string s) ∧ ∃ c, w' = w.alloc (.cells c 5) :=
  (san_any s w hs).mono fun e w' ⟨⟨t, he, ht⟩, hw⟩ => ⟨by rw [he, ht, vt_same s hv], hw⟩

/-! ### STEP 1: THE WALK: the Go text returns true. 'Grown w w'': the world has at most new blocks (Derived/RowKit3.lean). Part the cases AHEAD of 'go_enter' where a test parts the walk; take each callee by a contract of your own. -/
set_option maxHeartbeats 2000000 in
theorem walk (a0 : ByteArray) (w0 : a0.size ≤ maxLen) (w : World) :
    Calls Try.prog 4 #[.string a0] w fun e w' => e = .returned (.bool true) ∧ Grown w w' := by
  by_cases g0 : a0.size ≤ 65536
  case neg =>
    unfold maxLen at w0
    go_enter Try.func4, Try.ntmps4
    go_wp2_with (go_at_call 8; refine (bytes8_any _ _ w0).mono ?_; rintro e w' ⟨⟨q, rfl⟩, h⟩; obtain rfl := h.symm)
    all_goals (go_ret; exact ⟨rfl, by repeat (first | with_reducible exact Grown.refl _ | with_reducible apply Grown.alloc | with_reducible apply Grown.drew)⟩)
  cases hv : vt a0
  · by_cases h1 : 1 ≤ a0.size
    · by_cases h2 : a0.size ≤ 64
      · have HB : Hid (decide (1 ≤ a0.size ∧ a0.size ≤ 64) = true) := decide_eq_true ⟨h1, h2⟩
        have h2' : decide ((a0.size : Int) ≤ 64) = true := decide_eq_true (by omega)
        go_enter Try.func4, Try.ntmps4
        go_wp2_with (first | (go_at_call 8; refine (bytes8_any _ _ w0).mono ?_; rintro e w' ⟨⟨q, rfl⟩, h⟩; obtain rfl := h.symm) | (go_at_call 9; refine (san_two _ _ (by omega)).mono ?_; rintro e w' ⟨⟨t, rfl, ts, tv⟩, c, rfl⟩; rw [HB.out] at tv) | (go_at_call 6; refine (valid_any _ _ (by omega)).mono ?_; rintro e w' ⟨rfl, h⟩; obtain rfl := h.symm))
        all_goals (go_ret; exact ⟨rfl, by repeat (first | with_reducible exact Grown.refl _ | with_reducible apply Grown.alloc | with_reducible apply Grown.drew)⟩)
      · have HB : Hid (decide (1 ≤ a0.size ∧ a0.size ≤ 64) = false) := decide_eq_false (by omega)
        have h1' : decide (1 ≤ (a0.size : Int)) = true := decide_eq_true (by omega)
        have h2' : decide ((a0.size : Int) ≤ 64) = false := decide_eq_false (by omega)
        go_enter Try.func4, Try.ntmps4
        go_wp2_with (first | (go_at_call 8; refine (bytes8_any _ _ w0).mono ?_; rintro e w' ⟨⟨q, rfl⟩, h⟩; obtain rfl := h.symm) | (go_at_call 9; refine (san_two _ _ (by omega)).mono ?_; rintro e w' ⟨⟨t, rfl, ts, tv⟩, c, rfl⟩; rw [HB.out] at tv) | (go_at_call 6; refine (valid_any _ _ (by omega)).mono ?_; rintro e w' ⟨rfl, h⟩; obtain rfl := h.symm))
        all_goals (go_ret; exact ⟨rfl, by repeat (first | with_reducible exact Grown.refl _ | with_reducible apply Grown.alloc | with_reducible apply Grown.drew)⟩)
    · have HB : Hid (decide (1 ≤ a0.size ∧ a0.size ≤ 64) = false) := decide_eq_false (by omega)
      have h1' : decide (1 ≤ (a0.size : Int)) = false := decide_eq_false (by omega)
      go_enter Try.func4, Try.ntmps4
      go_wp2_with (first | (go_at_call 8; refine (bytes8_any _ _ w0).mono ?_; rintro e w' ⟨⟨q, rfl⟩, h⟩; obtain rfl := h.symm) | (go_at_call 9; refine (san_two _ _ (by omega)).mono ?_; rintro e w' ⟨⟨t, rfl, ts, tv⟩, c, rfl⟩; rw [HB.out] at tv) | (go_at_call 6; refine (valid_any _ _ (by omega)).mono ?_; rintro e w' ⟨rfl, h⟩; obtain rfl := h.symm))
      all_goals (go_ret; exact ⟨rfl, by repeat (first | with_reducible exact Grown.refl _ | with_reducible apply Grown.alloc | with_reducible apply Grown.drew)⟩)
  · obtain ⟨h1, h2⟩ := vt_size a0 hv
    have HV : Hid (vt a0 = true) := hv
    have h1' : decide (1 ≤ (a0.size : Int)) = true := decide_eq_true (by omega)
    have h2' : decide ((a0.size : Int) ≤ 64) = true := decide_eq_true (by omega)
    go_enter Try.func4, Try.ntmps4
    go_wp2_with (first | (go_at_call 8; refine (bytes8_any _ _ w0).mono ?_; rintro e w' ⟨⟨q, rfl⟩, h⟩; obtain rfl := h.symm) | (go_at_call 9; refine (san_good _ _ (by omega) HV.out).mono ?_; rintro e w' ⟨rfl, c, rfl⟩) | (go_at_call 6; refine (valid_any _ _ (by omega)).mono ?_; rintro e w' ⟨rfl, h⟩; obtain rfl := h.symm))
    · go_ret; exact ⟨rfl, by repeat (first | with_reducible exact Grown.refl _ | with_reducible apply Grown.alloc | with_reducible apply Grown.drew)⟩
    go_loop [4] (fun i => ∃ k : Nat, k ≤ a0.size ∧ i = .int .i64 k) (fun i => a0.size - (intOf i).toNat)
    case atStart => exact ⟨0, Nat.zero_le _, rfl⟩
    case round =>
      obtain ⟨k, hk, rfl⟩ := hrel
      by_cases hlt : k < a0.size
      · have HY : Hid (tailb ((a0[k]'hlt).toNat : Int) = true) := by
          show _ = _
          rw [byte_at]; exact vt_tail a0 HV.out k hlt
        go_wp2_with (go_at_call 10; refine (forging_no _ _ HY.out).mono ?_; rintro e w' ⟨rfl, h⟩; obtain rfl := h.symm)
        go_round
        case rel => exact ⟨k + 1, by omega, by go_num⟩
        case measure => simp [intOf]; omega
      · go_wp2
        go_ret; exact ⟨rfl, by repeat (first | with_reducible exact Grown.refl _ | with_reducible apply Grown.alloc | with_reducible apply Grown.drew)⟩

/-! ### THE ROW's STEP: WRITTEN OUT: LEAVE IT -/
set_option maxRecDepth 100000 in
theorem lifted (os : Os) (started : os.Started) (H : Type) (enc : TypeId × Value → H) :
    ReturnsInHanded {} Try.checked os 4 .any (Rows.fnValidTenantSanitisedAcceptedAndSafeSpec.pre6 enc Try.prog Try.f4 Rows.fnValidTenantSanitisedAcceptedAndSafeRow.domain false) (Rows.fnValidTenantSanitisedAcceptedAndSafeSpec.post enc Try.prog Try.f4 false true false false) := by
  refine returnsInHanded_of_change (C := Try.checked) own started (by kernel_rfl) Try.func4
    (ChangeSpec.witness6 (enc := enc) (C := Try.checked) false ⟨#[], #[.string ByteArray.empty], []⟩ 8 (by kernel_rfl) (by kernel_rfl) (by kernel_rfl) (by kernel_rfl)) ?_
  intro W base args ds gs before hval0 hW hcnd _
  have hval : ∀ (j : Nat) t v, Try.f4.params[j]? = some t → args[j]? = some v → Value.okWide Try.prog W .any base t v := hval0
  have hW' := hW
  obtain ⟨p, q, hA0, hV, rfl, hfz, hnd⟩ := hW
  have hA : DataW.TrodAll enc Try.prog W 0 (fun _ => true) true Try.f4.params.toList args.toList ds p := hA0
  rw [Try.params4] at hA hval
  obtain ⟨v0, vs0, d0, ds0, p0, q0, hargs, rfl, rfl, h0, r0⟩ := trodAll_cons hA
  obtain ⟨rfl, rfl, rfl⟩ := trodAll_nil r0
  obtain rfl : args = #[v0] := by cases args; simp_all
  obtain ⟨rfl, rfl⟩ := trodVars_none hV
  obtain ⟨a0, rfl, rfl, rfl, w0⟩ := open_string Try.underlying9 (hval 0 9 v0 rfl rfl) h0
  clear hA0 hval0
  simp only [List.append_nil] at hW'
  refine (walk a0 w0 W).mono fun e W' ⟨he, hg⟩ => ?_
  subst he
  exact ⟨_, rfl, post_of_same (pa := []) (pv := []) hW' (fun _ _ _ => (trodAll_cons_mk (shut_bool Try.underlying4 _) trodAll_mk0)) (fun sp _ => (trodAll_cons_mk (shut_string Try.underlying9 w0) trodAll_mk0)) (fun _ _ => rfl) rfl
    (hg.frame _) hg.2.1 (ok_one (by kernel_rfl) rfl (okWide_bool_mk Try.underlying4 _))⟩

theorem over : Rows.fnValidTenantSanitisedAcceptedAndSafeRow.holds Try.pinned (OpenSpec.ofChange Rows.fnValidTenantSanitisedAcceptedAndSafeSpec) :=
  OpenClaim.holds_of_wide 4 Try.f4 rfl rfl rfl rfl rfl rfl rfl ⟨rfl, rfl, rfl, rfl, rfl⟩ rfl rfl rfl rfl rfl (by kernel_rfl) Try.func4 (by kernel_rfl)
    (of_decide_eq_true (by kernel_rfl)) (by unfold Func.isWrapper; first | (rw [if_pos (by decide +kernel)]; kernel_rfl) | (rw [if_neg (by decide +kernel)]; exact ⟨rfl, rfl⟩))
    (fun os started H enc _ => lifted os started H enc)

/-- ████ THE STATEMENT ████ -/
theorem proved : Rows.FnValidTenantSanitisedAcceptedAndSafeSaid :=
  over
end Go.Proofs.Qxb6630766a.fnValidTenantSanitisedAcceptedAndSafe

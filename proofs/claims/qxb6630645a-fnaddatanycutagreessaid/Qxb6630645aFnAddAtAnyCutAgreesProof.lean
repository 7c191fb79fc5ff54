/-
  The proof of 'Rows.FnAddAtAnyCutAgreesSaid': the row's step, over the walk.
-/
import Derived.Test.Qxb6630645aRows
import Derived.Test.Qxb6630645aWalkB
import Derived.Test.Qxb6630645aOpen
import Derived.WalkKit
import Derived.ProofKit
import Derived.OpenShut
import Derived.ShutString
import Derived.ChangeOld
import Derived.Below
namespace Go.Proofs.Qxb6630645a.fnAddAtAnyCutAgrees
open Go.ChangeShapes Go.WideShapes Go.ChangeAt Go.RowKit
set_option linter.unusedVariables false

theorem own : ownKnob Try.prog.godebug = none := by kernel_rfl
theorem laidOut : laidOutB Try.prog = true := by kernel_rfl

theorem ents_len {w : World} {ao : Option Addr} {n cp : Nat} {es : List Ent} (h : Ents w (.slice ao n cp) es) : n = es.length := by
  obtain ⟨ao', cp', hv, -⟩ := h.shape
  simp only [Value.slice.injEq] at hv
  exact hv.2.1

theorem open_cap {H : Type} {enc : TypeId × Value → H} {w : World} {base : Nat} {spare : Nat → Bool} {held : Bool} {fuel : Nat} {ao : Option Addr} {n cp : Nat} {x : DataW H × List MemPlace}
    (h : DataW.trod enc Try.prog w base spare held fuel 22 [.slice ao n cp] = some x) : n ≤ cp := by
  rcases Go.Deep.open_slice Try.underlying22 h with ⟨hcs, -⟩ | ⟨a, len, cap, m, k, D, Pl, hcs, -, hl, -⟩
  · simp only [List.cons.injEq, Value.slice.injEq, and_true] at hcs
    omega
  · simp only [List.cons.injEq, Value.slice.injEq, and_true] at hcs
    omega

theorem walk (v1 : Value) (a2 : Option Addr) (n2 k2 : Nat) (f p x t k : Int) (es1 es2 : List Ent) (w : World) (hE1 : Ents w v1 es1) (hE2 : Ents w (.slice a2 n2 k2) es2) (hcap : n2 ≤ k2)
    (wf : wrap64 f = f) (wp : wrap64 p = p) (wx : wrap64 x = x) :
    Calls Try.prog 4 #[v1, .int .i64 f, .int .i64 p, .int .i64 x, .int .i64 t, .slice a2 n2 k2, .int .i64 k] w fun y w' => y = .returned (.bool true) ∧ Below w.heap.size w w' := by
  obtain rfl := ents_len hE2
  by_cases h : k < 0 ∨ (es2.length : Int) < k
  · exact walk4_out v1 a2 k2 f p x t es1 es2 w hE1 hE2 wf wp wx k h
  · obtain ⟨c, rfl⟩ := Int.eq_ofNat_of_zero_le (show 0 ≤ k by omega)
    exact walk4_in v1 a2 k2 f p x t es1 es2 w hE1 hE2 wf wp wx c (by omega) hcap

set_option maxRecDepth 100000 in
theorem lifted (os : Os) (started : os.Started) (H : Type) (enc : TypeId × Value → H) :
    ReturnsInHanded {} Try.checked os 4 .any (Rows.fnAddAtAnyCutAgreesSpec.pre6 enc Try.prog Try.f4 Rows.fnAddAtAnyCutAgreesRow.domain false) (Rows.fnAddAtAnyCutAgreesSpec.post enc Try.prog Try.f4 false true false false) := by
  refine returnsInHanded_of_change (C := Try.checked) own started (by kernel_rfl) Try.func4
    (ChangeSpec.witness6 (enc := enc) (C := Try.checked) false ⟨#[], #[.slice none 0 0, .int .i64 0, .int .i64 0, .int .i64 0, .int .i64 0, .slice none 0 0, .int .i64 0], []⟩ 8 (by kernel_rfl) (by kernel_rfl) (by kernel_rfl) (by kernel_rfl)) ?_
  intro W base args ds gs before hval0 hW hcnd _
  have hval : ∀ (j : Nat) t v, Try.f4.params[j]? = some t → args[j]? = some v → Value.okWide Try.prog W .any base t v := hval0
  have hW' := hW
  obtain ⟨p, q, hA0, hV, rfl, hfz, hnd⟩ := hW
  have hA : DataW.TrodAll enc Try.prog W 0 (fun _ => true) true Try.f4.params.toList args.toList ds p := hA0
  rw [Try.params4] at hA hval
  obtain ⟨v0, vs0, d0, ds0, p0, q0, hargs, rfl, rfl, h0, r0⟩ := trodAll_cons hA
  obtain ⟨v1, vs1, d1, ds1, p1, q1, rfl, rfl, rfl, h1, r1⟩ := trodAll_cons r0
  obtain ⟨v2, vs2, d2, ds2, p2, q2, rfl, rfl, rfl, h2, r2⟩ := trodAll_cons r1
  obtain ⟨v3, vs3, d3, ds3, p3, q3, rfl, rfl, rfl, h3, r3⟩ := trodAll_cons r2
  obtain ⟨v4, vs4, d4, ds4, p4, q4, rfl, rfl, rfl, h4, r4⟩ := trodAll_cons r3
  obtain ⟨v5, vs5, d5, ds5, p5, q5, rfl, rfl, rfl, h5, r5⟩ := trodAll_cons r4
  obtain ⟨v6, vs6, d6, ds6, p6, q6, rfl, rfl, rfl, h6, r6⟩ := trodAll_cons r5
  obtain ⟨rfl, rfl, rfl⟩ := trodAll_nil r6
  obtain rfl : args = #[v0, v1, v2, v3, v4, v5, v6] := by cases args; simp_all
  obtain ⟨rfl, rfl⟩ := trodVars_none hV
  have k0 := h0
  have lt0 : ∀ x ∈ p0, x.block < W.heap.size := by obtain ⟨m, hm⟩ := k0; exact DataW.trod_lt m _ _ _ hm
  obtain ⟨a0, len0, cap0, rfl⟩ := okWide_slice Try.underlying22 (hval 0 22 v0 rfl rfl)
  obtain ⟨es0, w0⟩ : ∃ es, Ents W (.slice a0 len0 cap0) es := by
    obtain ⟨fuel, hf⟩ := h0
    exact open_ents (by simpa [Value.cells] using hf)
  obtain ⟨a1, rfl, rfl, rfl, w1⟩ := open_int Try.underlying3 (hval 1 3 v1 rfl rfl) h1
  obtain ⟨a2, rfl, rfl, rfl, w2⟩ := open_int Try.underlying3 (hval 2 3 v2 rfl rfl) h2
  obtain ⟨a3, rfl, rfl, rfl, w3⟩ := open_int Try.underlying3 (hval 3 3 v3 rfl rfl) h3
  obtain ⟨a4, rfl, rfl, rfl, w4⟩ := open_int Try.underlying3 (hval 4 3 v4 rfl rfl) h4
  have k5 := h5
  have lt5 : ∀ x ∈ p5, x.block < W.heap.size := by obtain ⟨m, hm⟩ := k5; exact DataW.trod_lt m _ _ _ hm
  obtain ⟨a5, len5, cap5, rfl⟩ := okWide_slice Try.underlying22 (hval 5 22 v5 rfl rfl)
  obtain ⟨es5, w5⟩ : ∃ es, Ents W (.slice a5 len5 cap5) es := by
    obtain ⟨fuel, hf⟩ := h5
    exact open_ents (by simpa [Value.cells] using hf)
  obtain ⟨a6, rfl, rfl, rfl, w6⟩ := open_int Try.underlying3 (hval 6 3 v6 rfl rfl) h6
  have hcap5 : len5 ≤ cap5 := by
    obtain ⟨fuel, hf⟩ := k5
    exact open_cap (by simpa [Value.cells] using hf)
  clear hA0 hval0
  refine (walk (.slice a0 len0 cap0) a5 len5 cap5 a1 a2 a3 a4 a6 es0 es5 W w0 w5 hcap5 (wrap64_self w1) (wrap64_self w2) (wrap64_self w3)).mono fun e W' ⟨he, bel⟩ => ?_
  subst he
  exact ⟨_, rfl, _, _, _, [], _, [], hW', trodAll_mk1 (shut_bool Try.underlying4 _), (trodAll_cons_mk (Below.trod laidOut (by kernel_rfl) (of_decide_eq_true (by kernel_rfl)) k0 bel lt0) (trodAll_cons_mk (shut_int Try.underlying3 w1) (trodAll_cons_mk (shut_int Try.underlying3 w2) (trodAll_cons_mk (shut_int Try.underlying3 w3) (trodAll_cons_mk (shut_int Try.underlying3 w4) (trodAll_cons_mk (Below.trod laidOut (by kernel_rfl) (of_decide_eq_true (by kernel_rfl)) k5 bel lt5) (trodAll_cons_mk (shut_int Try.underlying3 w6) (trodAll_mk0)))))))), rfl, bel.frame _, fun h => by cases h⟩

theorem over : Rows.fnAddAtAnyCutAgreesRow.holds Try.pinned (OpenSpec.ofChange Rows.fnAddAtAnyCutAgreesSpec) :=
  OpenClaim.holds_of_wide 4 Try.f4 rfl rfl rfl rfl rfl rfl rfl ⟨rfl, rfl, rfl, rfl, rfl⟩ rfl rfl rfl rfl rfl (by kernel_rfl) Try.func4 (by kernel_rfl)
    (of_decide_eq_true (by kernel_rfl)) (by unfold Func.isWrapper; first | (rw [if_pos (by decide +kernel)]; kernel_rfl) | (rw [if_neg (by decide +kernel)]; exact ⟨rfl, rfl⟩))
    (fun os started H enc _ => lifted os started H enc)

/-- THE STATEMENT. -/
theorem proved : Rows.FnAddAtAnyCutAgreesSaid :=
  over
end Go.Proofs.Qxb6630645a.fnAddAtAnyCutAgrees

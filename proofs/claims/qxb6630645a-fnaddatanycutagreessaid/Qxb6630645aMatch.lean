/-
  zzMatchB1, where it answers true.
-/
import Derived.Test.Qxb6630645aSame
namespace Go.Proofs.Qxb6630645a
open Go.ChangeShapes Go.WideShapes Go.ChangeAt Go.RowKit
open Go.Deep

theorem ECells_at (gs : List Ent) : ∀ (i r : Nat), i < gs.length → r < 8 → (ECells gs)[i * 8 + r]? = (gs.getD i ent0).cells[r]? := by
  induction gs with
  | nil => intro i r hi; simp at hi
  | cons g gs ih =>
    intro i r hi hr
    have e : ECells (g :: gs) = g.cells ++ ECells gs := by simp [ECells]
    rw [e]
    cases i with
    | zero => rw [List.getElem?_append_left (by simp [Ent.cells]; omega)]; simp [List.getD]
    | succ i =>
      rw [List.getElem?_append_right (by simp [Ent.cells]; omega)]
      have : (i + 1) * 8 + r - g.cells.length = i * 8 + r := by simp [Ent.cells]; omega
      rw [this, ih i r (by simpa using hi) hr]
      simp [List.getD]

/-- The entries of a row of the call's own. -/
theorem own_at {w : World} {B g cap n : Nat} {gs : List Ent} (h : w.ownsRow B 34 8 (.slice (some ⟨g, 0, none⟩) n cap) n (ECells gs)) (hn : gs.length = n) (i : Nat) (hi : i < n) : At w g (i * 8) (gs.getD i ent0) := by
  subst hn
  have hc : ∀ r, r < 8 → w.cell? ⟨g, i * 8 + r, none⟩ = (gs.getD i ent0).cells[r]? := fun r hr => by
    rw [h.cellAt (i * 8 + r) (by omega), ECells_at gs i r hi hr]
  exact ⟨hc 0 (by omega), hc 1 (by omega), hc 2 (by omega), hc 3 (by omega), hc 4 (by omega), hc 5 (by omega), hc 6 (by omega), hc 7 (by omega)⟩
theorem own_lt {w : World} {B g cap n m : Nat} {xs : List Value} (h : w.ownsRow B 34 8 (.slice (some ⟨g, 0, none⟩) n cap) m xs) : g < w.heap.size := (h.lt g rfl).2

theorem twin_at {w : World} {es gs : List Ent} (h : Twin w es gs) {i : Nat} (hi : i < gs.length) : ∃ va, gs.getD i ent0 = { es.getD i ent0 with dv := va } ∧ (va = .slice none 0 0 ↔ (es.getD i ent0).dv = .slice none 0 0) ∧ Clone w va (es.getD i ent0).dl := by
  obtain ⟨h1, h2, h3⟩ := h i hi
  refine ⟨_, h1, h2, ?_⟩
  rw [h1] at h3
  exact h3
theorem At.drew {w : World} {b o : Nat} {e : Ent} (h : At w b o e) : At w.drew b o e := ⟨h.c0, h.c1, h.c2, h.c3, h.c4, h.c5, h.c6, h.c7⟩
theorem getD_left (a b : List Ent) (i : Nat) (h : i < a.length) : (a ++ b).getD i ent0 = a.getD i ent0 := by simp [List.getD, List.getElem?_append_left h]
theorem getD_right (a b : List Ent) (i : Nat) : (a ++ b).getD (a.length + i) ent0 = b.getD i ent0 := by simp [List.getD, List.getElem?_append_right]

set_option maxHeartbeats 2000000 in
theorem match_yes (got v1 v2 : Value) (gs es1 es2 : List Ent) (B : Nat) (w : World) (hG : w.ownsRow B 34 8 got gs.length (ECells gs)) (hl : gs.length = es1.length + es2.length) (hT : Twin w (es1 ++ es2) gs)
    (hE1 : Ents w v1 es1) (hE2 : Ents w v2 es2) (hb : gs.length ≤ 1000000) :
    Calls Try.prog 12 #[got, v1, v2] w fun x w' => x = .returned (.bool true) ∧ Below w.heap.size w w' := by
  obtain ⟨a1, k1, rfl, -, -, hc1⟩ := hE1.shape
  obtain ⟨a2, k2, rfl, -, -, hc2⟩ := hE2.shape
  have HD1 : Hid (∀ e ∈ es1, EntOk w e) := hE1.2
  have HD2 : Hid (∀ e ∈ es2, EntOk w e) := hE2.2
  have HC1 : Hid (0 < es1.length → ∃ b off, a1 = some ⟨b, off, none⟩ ∧ ERow w b off es1) := hc1
  have HC2 : Hid (0 < es2.length → ∃ b off, a2 = some ⟨b, off, none⟩ ∧ ERow w b off es2) := hc2
  have HT : Hid (Twin w (es1 ++ es2) gs) := hT
  have HL : Hid (gs.length = es1.length + es2.length) := hl
  clear hE1 hE2 hc1 hc2 hT
  obtain ⟨ag, kg, hgot⟩ : ∃ (ag : Option Addr) (kg : Nat), got = .slice ag gs.length kg := by
    rcases Joins.ownsRow_forms hG with ⟨rfl, h0⟩ | ⟨g, cap, rfl⟩
    · exact ⟨none, 0, by rw [h0]⟩
    · exact ⟨_, _, rfl⟩
  have HG : Hid (0 < gs.length → ∃ g, ag = some ⟨g, 0, none⟩ ∧ g < w.heap.size ∧ ∀ i, i < gs.length → At w g (i * 8) (gs.getD i ent0)) := by
    intro h0
    obtain ⟨g, cap, hg⟩ := Joins.ownsRow_form hG h0
    rw [hgot] at hg
    simp only [Value.slice.injEq, true_and] at hg
    obtain ⟨rfl, rfl⟩ := hg
    subst hgot
    exact ⟨g, rfl, own_lt hG, fun i hi => own_at hG rfl i hi⟩
  subst hgot
  clear hG
  have hne : (((gs.length : Nat) : Int) != (es1.length : Int) + (es2.length : Int)) = false := by rw [bne_eq_false_iff_eq]; omega
  have h1 : es1.length ≤ 1000000 := by omega
  have h2 : es2.length ≤ 1000000 := by omega
  clear hl
  go_enter Try.func12, Try.ntmps12
  go_wp2
  clear hne
  go_loopw [7] (fun i wr => ∃ k : Nat, k ≤ es1.length ∧ i = .int .i64 k ∧ Hid (Below w.heap.size w wr)) (fun i _ => es1.length - (intOf i).toNat)
  case atStart => exact ⟨0, Nat.zero_le _, rfl, Below.refl _ _⟩
  case round =>
    obtain ⟨k, hk, rfl, HB⟩ := hrel
    by_cases hlt : k < es1.length
    · obtain ⟨g, hag, hglt, hat⟩ := HG.out (by have := HL.out; omega)
      subst hag
      obtain ⟨b, o, ha, hr⟩ := HC1.out (by omega)
      subst ha
      obtain ⟨va, hva, hnil, hcl⟩ := twin_at HT.out (i := k) (by have := HL.out; omega)
      rw [getD_left _ _ _ hlt] at hva hnil hcl
      have A1 := (hat (k) (by have := HL.out; omega)).keepB hglt HB.out
      rw [hva] at A1
      have A2 := (hr.2 k hlt).keepB hr.1 HB.out
      have HS : Hid (Strs wr va (es1.getD k ent0).dl ∧ Strs wr (es1.getD k ent0).dv (es1.getD k ent0).dl ∧ (va = .slice none 0 0 ↔ (es1.getD k ent0).dv = .slice none 0 0)) :=
        ⟨hcl.strs.keep HB.out, ((HD1.out _ (by simp [List.getD, hlt])).det).keep HB.out, hnil⟩
      have l1 : g < wr.heap.size := Nat.lt_of_lt_of_le hglt HB.out.size
      have l2 : b < wr.heap.size := Nat.lt_of_lt_of_le hr.1 HB.out.size
      clear hva hnil hcl hat hr hglt
      generalize es1.getD k ent0 = e at *
      have HA1 : Hid (At wr g _ _) := A1
      have HA2 : Hid (At wr b _ e) := A2
      obtain ⟨c0, c1, c2, c3, c4, c5, c6, c7⟩ := A1
      obtain ⟨d0, d1, d2, d3, d4, d5, d6, d7⟩ := A2
      simp only at c0 c1 c2 c3 c4 c5 c6 c7
      have hgl : k < gs.length := by have := HL.out; omega
      go_wp2
      first
        | go_region_held (fun W => W.cell? ⟨g, k * 8, none⟩ = some (.string e.file) ∧ W.cell? ⟨g, k * 8 + 1, none⟩ = some (.int .i64 e.line) ∧ W.cell? ⟨g, k * 8 + 2, none⟩ = some (.string e.target) ∧ W.cell? ⟨g, k * 8 + 3, none⟩ = some (.string e.check) ∧ W.cell? ⟨g, k * 8 + 4, none⟩ = some (.bool e.pass) ∧ W.cell? ⟨g, k * 8 + 5, none⟩ = some (.string e.reason) ∧ W.cell? ⟨g, k * 8 + 6, none⟩ = some (.string e.err) ∧ W.cell? ⟨g, k * 8 + 7, none⟩ = some va ∧
            W.cell? ⟨b, o + k * 8, none⟩ = some (.string e.file) ∧ W.cell? ⟨b, o + k * 8 + 1, none⟩ = some (.int .i64 e.line) ∧ W.cell? ⟨b, o + k * 8 + 2, none⟩ = some (.string e.target) ∧ W.cell? ⟨b, o + k * 8 + 3, none⟩ = some (.string e.check) ∧ W.cell? ⟨b, o + k * 8 + 4, none⟩ = some (.bool e.pass) ∧ W.cell? ⟨b, o + k * 8 + 5, none⟩ = some (.string e.reason) ∧ W.cell? ⟨b, o + k * 8 + 6, none⟩ = some (.string e.err) ∧ W.cell? ⟨b, o + k * 8 + 7, none⟩ = some e.dv) (go_simp)
          (first | (go_at_call 16; refine (same_yes e va _ ?_ ?_ ?_).mono ?_; exact HS.out.1.keep (by exact (Below.refl _ _).drew); exact HS.out.2.1.keep (by exact (Below.refl _ _).drew); exact HS.out.2.2; rintro x w1 ⟨rfl, hb1⟩; obtain ⟨x0, x1, x2, x3, x4, x5, x6, x7⟩ := HA1.out.drew.keepB l1 hb1; obtain ⟨y0, y1, y2, y3, y4, y5, y6, y7⟩ := HA2.out.drew.keepB l2 hb1; simp only at x0 x1 x2 x3 x4 x5 x6 x7; have HB1 : Hid (Below _ _ w1) := hb1; clear hb1))
        | fail
      go_wp2
      go_roundw
      case rel => exact ⟨k + 1, by omega, by go_num, HB.out.drew.trans (HB1.out.mono HB.out.size)⟩
      case measure => simp [intOf]; omega
    · go_wp2
      go_loopw [8] (fun i wr => ∃ j : Nat, j ≤ es2.length ∧ i = .int .i64 j ∧ Hid (Below w.heap.size w wr)) (fun i _ => es2.length - (intOf i).toNat)
      case atStart => exact ⟨0, Nat.zero_le _, rfl, HB⟩
      case round =>
        clear HB
        obtain ⟨j, hj, rfl, HB⟩ := hrel
        by_cases hlt : j < es2.length
        · obtain ⟨g, hag, hglt, hat⟩ := HG.out (by have := HL.out; omega)
          subst hag
          obtain ⟨b, o, ha, hr⟩ := HC2.out (by omega)
          subst ha
          obtain ⟨va, hva, hnil, hcl⟩ := twin_at HT.out (i := es1.length + j) (by have := HL.out; omega)
          rw [getD_right] at hva hnil hcl
          have A1 := (hat (es1.length + j) (by have := HL.out; omega)).keepB hglt HB.out
          rw [hva] at A1
          have A2 := (hr.2 j hlt).keepB hr.1 HB.out
          have HS : Hid (Strs wr va (es2.getD j ent0).dl ∧ Strs wr (es2.getD j ent0).dv (es2.getD j ent0).dl ∧ (va = .slice none 0 0 ↔ (es2.getD j ent0).dv = .slice none 0 0)) :=
            ⟨hcl.strs.keep HB.out, ((HD2.out _ (by simp [List.getD, hlt])).det).keep HB.out, hnil⟩
          have l1 : g < wr.heap.size := Nat.lt_of_lt_of_le hglt HB.out.size
          have l2 : b < wr.heap.size := Nat.lt_of_lt_of_le hr.1 HB.out.size
          clear hva hnil hcl hat hr hglt
          generalize es2.getD j ent0 = e at *
          have HA1 : Hid (At wr g _ _) := A1
          have HA2 : Hid (At wr b _ e) := A2
          obtain ⟨c0, c1, c2, c3, c4, c5, c6, c7⟩ := A1
          obtain ⟨d0, d1, d2, d3, d4, d5, d6, d7⟩ := A2
          simp only at c0 c1 c2 c3 c4 c5 c6 c7
          have hgl : (es1.length : Int) + (j : Int) < (gs.length : Int) := by have := HL.out; omega
          have hg0 : (0 : Int) ≤ (es1.length : Int) + (j : Int) := by omega
          have hgt : ((es1.length : Int) + (j : Int)).toNat = es1.length + j := by omega
          have hgw : IntKind.i64.wrap ((es1.length : Int) + (j : Int)) = (es1.length : Int) + (j : Int) := by rw [IntKind.wrap_i64]; omega
          have hgn : ¬ (es1.length : Int) + (j : Int) < 0 := by omega
          go_wp2
          first
            | go_region_held (fun W => W.cell? ⟨g, (es1.length + j) * 8, none⟩ = some (.string e.file) ∧ W.cell? ⟨g, (es1.length + j) * 8 + 1, none⟩ = some (.int .i64 e.line) ∧ W.cell? ⟨g, (es1.length + j) * 8 + 2, none⟩ = some (.string e.target) ∧ W.cell? ⟨g, (es1.length + j) * 8 + 3, none⟩ = some (.string e.check) ∧ W.cell? ⟨g, (es1.length + j) * 8 + 4, none⟩ = some (.bool e.pass) ∧ W.cell? ⟨g, (es1.length + j) * 8 + 5, none⟩ = some (.string e.reason) ∧ W.cell? ⟨g, (es1.length + j) * 8 + 6, none⟩ = some (.string e.err) ∧ W.cell? ⟨g, (es1.length + j) * 8 + 7, none⟩ = some va ∧
                W.cell? ⟨b, o + j * 8, none⟩ = some (.string e.file) ∧ W.cell? ⟨b, o + j * 8 + 1, none⟩ = some (.int .i64 e.line) ∧ W.cell? ⟨b, o + j * 8 + 2, none⟩ = some (.string e.target) ∧ W.cell? ⟨b, o + j * 8 + 3, none⟩ = some (.string e.check) ∧ W.cell? ⟨b, o + j * 8 + 4, none⟩ = some (.bool e.pass) ∧ W.cell? ⟨b, o + j * 8 + 5, none⟩ = some (.string e.reason) ∧ W.cell? ⟨b, o + j * 8 + 6, none⟩ = some (.string e.err) ∧ W.cell? ⟨b, o + j * 8 + 7, none⟩ = some e.dv) (go_simp)
              (first | (go_at_call 16; refine (same_yes e va _ ?_ ?_ ?_).mono ?_; exact HS.out.1.keep (by exact (Below.refl _ _).drew); exact HS.out.2.1.keep (by exact (Below.refl _ _).drew); exact HS.out.2.2; rintro x w1 ⟨rfl, hb1⟩; obtain ⟨x0, x1, x2, x3, x4, x5, x6, x7⟩ := HA1.out.drew.keepB l1 hb1; obtain ⟨y0, y1, y2, y3, y4, y5, y6, y7⟩ := HA2.out.drew.keepB l2 hb1; simp only at x0 x1 x2 x3 x4 x5 x6 x7; have HB1 : Hid (Below _ _ w1) := hb1; clear hb1))
            | fail
          go_wp2
          go_roundw
          case rel => exact ⟨j + 1, by omega, by go_num, HB.out.drew.trans (HB1.out.mono HB.out.size)⟩
          case measure => simp [intOf]; omega
        · go_wp2
          go_ret
          exact ⟨rfl, HB.out⟩
end Go.Proofs.Qxb6630645a

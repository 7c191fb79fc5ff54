/-
  From the form's reading of a slice of entries to what the walks are told.
-/
import Derived.Test.Qxb6630645aBase
import Derived.SliceStrings
import Derived.Deep.Slices
namespace Go.Proofs.Qxb6630645a
open Go.ChangeShapes Go.WideShapes Go.ChangeAt Go.RowKit
open Go.Deep

theorem Try.cells9 : Try.prog.cellsOf 9 = 1 := by kernel_rfl
theorem Try.cells3 : Try.prog.cellsOf 3 = 1 := by kernel_rfl
theorem Try.cells4 : Try.prog.cellsOf 4 = 1 := by kernel_rfl
theorem Try.cells32 : Try.prog.cellsOf 32 = 1 := by kernel_rfl
theorem Try.cells36 : Try.prog.cellsOf 36 = 8 := by kernel_rfl

section
variable {H : Type} {enc : TypeId × Value → H} {w : World} {base : Nat} {spare : Nat → Bool} {held : Bool}

theorem open_strs {fuel : Nat} {v : Value} {x : DataW H × List MemPlace} (h : DataW.trod enc Try.prog w base spare held fuel 32 [v] = some x) :
    ∃ ss : List ByteArray, Strs w v ss ∧ ∀ s ∈ ss, s.size ≤ maxLen := by
  rcases open_strings Try.underlying32 Try.underlying9 Try.cells9 h with ⟨hcs, -⟩ | ⟨a, len, cap, ss, hcs, -, hl, hm, hz, -, hcell, hws⟩
  · simp only [List.cons.injEq, and_true] at hcs
    exact ⟨[], .inl ⟨hcs, rfl⟩, fun s hs => by cases hs⟩
  · simp only [List.cons.injEq, and_true] at hcs
    have hle : len ≤ ss.length := by rw [hz]; split <;> omega
    have hlen : (ss.take len).length = len := by simp; omega
    refine ⟨ss.take len, .inr ⟨a, cap, by rw [hlen]; exact hcs, by rw [hlen]; omega, ?_⟩, fun s hs => hws s (List.mem_of_mem_take hs)⟩
    by_cases h0 : len = 0
    · subst h0; exact .inl rfl
    · right
      obtain ⟨b, off, spot⟩ := a
      have g0 := hcell 0 (by omega)
      have hspot : spot = none := by simpa [Addr.add] using World.cell?_spot g0
      subst hspot
      have hb : b < w.heap.size := by
        have := World.block_lt_of_cell? w _ g0
        simpa [Addr.add] using this
      refine ⟨b, off, rfl, hb, fun i hi => ?_⟩
      rw [hlen] at hi
      have g := hcell i (by omega)
      rw [add_plain] at g
      rw [g]
      simp [List.getD, hi]

/-- The eight cells as a list. -/
def ecells (e : Ent) : List Value := [.string e.file, .int .i64 e.line, .string e.target, .string e.check, .bool e.pass, .string e.reason, .string e.err, e.dv]

theorem open_ent {fuel : Nat} {cs : List Value} {x : DataW H × List MemPlace} (h : DataW.trod enc Try.prog w base spare held fuel 36 cs = some x) :
    ∃ e : Ent, cs = ecells e ∧ EntOk w e := by
  obtain ⟨xs, n, -, -, hl, hlen, hf⟩ := DataW.trod_struct Try.underlying36 h
  rw [Try.cells36] at hl
  match cs, hl, xs, hlen with
  | [c0, c1, c2, c3, c4, c5, c6, c7], _, [y0, y1, y2, y3, y4, y5, y6, y7], _ =>
    have h0 := hf 0 _ rfl
    have h1 := hf 1 _ rfl
    have h2 := hf 2 _ rfl
    have h3 := hf 3 _ rfl
    have h4 := hf 4 _ rfl
    have h5 := hf 5 _ rfl
    have h6 := hf 6 _ rfl
    have h7 := hf 7 _ rfl
    simp [Try.cells9, Try.cells3, Try.cells4, Try.cells32] at h0 h1 h2 h3 h4 h5 h6 h7
    obtain ⟨s0, e0, -, b0⟩ := DataW.trod_string Try.underlying9 h0
    obtain ⟨s1, e1, -, b1⟩ := DataW.trod_int Try.underlying3 h1
    obtain ⟨s2, e2, -, b2⟩ := DataW.trod_string Try.underlying9 h2
    obtain ⟨s3, e3, -, b3⟩ := DataW.trod_string Try.underlying9 h3
    obtain ⟨s4, e4, -⟩ := DataW.trod_bool Try.underlying4 h4
    obtain ⟨s5, e5, -, b5⟩ := DataW.trod_string Try.underlying9 h5
    obtain ⟨s6, e6, -, b6⟩ := DataW.trod_string Try.underlying9 h6
    obtain ⟨ss, hs, hz⟩ := open_strs h7
    simp only [List.cons.injEq, and_true] at e0 e1 e2 e3 e4 e5 e6
    subst e0 e1 e2 e3 e4 e5 e6
    exact ⟨⟨s0, s1, s2, s3, s4, s5, s6, c7, ss⟩, rfl, ⟨b0, b2, b3, b5, b6, hz, hs⟩⟩

theorem cells8 {a : Addr} {cs : List Value} (h : w.cells? base a 8 = some cs) : ∀ j, j < 8 → w.cell? (a.add j) = cs[j]? := by
  unfold World.cells? at h
  split at h
  · intro j hj
    have := mapM_some_get h j j (by simp [hj])
    exact this
  · cases h

theorem at_of {a : Addr} {e : Ent} (h : ∀ j, j < 8 → w.cell? (a.add j) = (ecells e)[j]?) : ∃ b off, a = ⟨b, off, none⟩ ∧ b < w.heap.size ∧ At w b off e := by
  obtain ⟨b, off, spot⟩ := a
  have g0 := h 0 (by omega)
  have g0' : w.cell? ((⟨b, off, spot⟩ : Addr).add 0) = some (.string e.file) := g0
  have hspot : spot = none := by simpa [Addr.add] using World.cell?_spot g0'
  subst hspot
  have hb : b < w.heap.size := by
    have := World.block_lt_of_cell? w _ g0'
    simpa [Addr.add] using this
  have g : ∀ j, j < 8 → w.cell? ⟨b, off + j, none⟩ = (ecells e)[j]? := fun j hj => by rw [← add_plain]; exact h j hj
  exact ⟨b, off, rfl, hb, ⟨g 0 (by omega), g 1 (by omega), g 2 (by omega), g 3 (by omega), g 4 (by omega), g 5 (by omega), g 6 (by omega), g 7 (by omega)⟩⟩

theorem open_ents {fuel : Nat} {v : Value} {x : DataW H × List MemPlace} (h : DataW.trod enc Try.prog w base spare held fuel 22 [v] = some x) : ∃ es : List Ent, Ents w v es := by
  rcases open_slice Try.underlying22 h with ⟨hcs, -⟩ | ⟨a, len, cap, m, n, D, Pl, hcs, -, hl, hm, hmm, -, hel⟩
  · simp only [List.cons.injEq, and_true] at hcs
    exact ⟨[], .inl ⟨hcs, rfl⟩, fun e he => by cases he⟩
  · simp only [List.cons.injEq, and_true] at hcs
    rw [Try.cells36] at hel
    have hle : len ≤ m := by rw [hmm]; split <;> omega
    have hex : ∀ i, i < len → ∃ e : Ent, EntOk w e ∧ ∀ j, j < 8 → w.cell? ((a.add (i * 8)).add j) = (ecells e)[j]? := by
      intro i hi
      obtain ⟨cs', h1, h2⟩ := hel i (by omega)
      obtain ⟨e, rfl, he⟩ := open_ent h2
      exact ⟨e, he, cells8 h1⟩
    have : Inhabited Ent := ⟨ent0⟩
    obtain ⟨F, hF⟩ := choose_lt hex
    have hlen : ((List.range len).map F).length = len := by simp
    refine ⟨(List.range len).map F, .inr ⟨a, cap, by rw [hlen]; exact hcs, by rw [hlen]; omega, ?_⟩, ?_⟩
    · by_cases h0 : len = 0
      · subst h0; exact .inl rfl
      · right
        have g0 := (hF 0 (by omega)).2
        simp only [Nat.zero_mul] at g0
        have e0 : a.add 0 = a := by simp [Addr.add]
        rw [e0] at g0
        obtain ⟨b, off, rfl, hb, -⟩ := at_of g0
        refine ⟨b, off, rfl, hb, fun i hi => ?_⟩
        rw [hlen] at hi
        have gi := (hF i hi).2
        rw [add_plain] at gi
        obtain ⟨b', off', ha, -, hat⟩ := at_of gi
        simp only [Addr.mk.injEq, and_true] at ha
        obtain ⟨rfl, rfl⟩ := ha
        have e : ((List.range len).map F).getD i ent0 = F i := by simp [List.getD, hi]
        rw [e]; exact hat
    · intro e he
      rw [List.mem_map] at he
      obtain ⟨i, hi, rfl⟩ := he
      exact (hF i (List.mem_range.1 hi)).1
end
end Go.Proofs.Qxb6630645a

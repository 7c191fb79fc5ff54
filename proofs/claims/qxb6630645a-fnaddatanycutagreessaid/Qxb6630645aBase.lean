/-
  Words for the report laws: an entry's data, what a slice of strings and a slice of entries read as in a world.
-/
import Derived.Test.Qxb6630645aRows
import Derived.WalkKit
import Derived.ProofKit
import Derived.WalkSpells
import Derived.Deep.OwnRows
namespace Go.Proofs.Qxb6630645a
open Go.ChangeShapes Go.WideShapes Go.ChangeAt Go.RowKit

theorem ret_int {k : IntKind} {a b : Int} (h : a = b) : Ending.returned (.int k a) = .returned (.int k b) := by rw [h]

/-- An entry as it lies in eight cells; 'dv': the value of its last field, a slice of strings; 'dl': what that reads as. -/
structure Ent where
  file : ByteArray
  line : Int
  target : ByteArray
  check : ByteArray
  pass : Bool
  reason : ByteArray
  err : ByteArray
  dv : Value
  dl : List ByteArray

def ent0 : Ent := ⟨.empty, 0, .empty, .empty, false, .empty, .empty, .slice none 0 0, []⟩

/-- The entry as a struct value. -/
def Ent.agg (e : Ent) : Value := .agg #[.string e.file, .int .i64 e.line, .string e.target, .string e.check, .bool e.pass, .string e.reason, .string e.err, e.dv]

/-- The entry's eight cells lie in block b from o on. -/
structure At (w : World) (b o : Nat) (e : Ent) : Prop where
  c0 : w.cell? ⟨b, o, none⟩ = some (.string e.file)
  c1 : w.cell? ⟨b, o + 1, none⟩ = some (.int .i64 e.line)
  c2 : w.cell? ⟨b, o + 2, none⟩ = some (.string e.target)
  c3 : w.cell? ⟨b, o + 3, none⟩ = some (.string e.check)
  c4 : w.cell? ⟨b, o + 4, none⟩ = some (.bool e.pass)
  c5 : w.cell? ⟨b, o + 5, none⟩ = some (.string e.reason)
  c6 : w.cell? ⟨b, o + 6, none⟩ = some (.string e.err)
  c7 : w.cell? ⟨b, o + 7, none⟩ = some e.dv

/-- The strings ss lie in block b from off on. -/
def SRow (w : World) (b off : Nat) (ss : List ByteArray) : Prop :=
  b < w.heap.size ∧ ∀ i, i < ss.length → w.cell? ⟨b, off + i, none⟩ = some (.string (ss.getD i .empty))
/-- The entries es lie in block b from off on. -/
def ERow (w : World) (b off : Nat) (es : List Ent) : Prop :=
  b < w.heap.size ∧ ∀ i, i < es.length → At w b (off + i * 8) (es.getD i ent0)

/-- The slice value v reads in w as the strings ss. -/
def Strs (w : World) (v : Value) (ss : List ByteArray) : Prop :=
  (v = .slice none 0 0 ∧ ss = []) ∨ ∃ (a : Addr) (cap : Nat), v = .slice (some a) ss.length cap ∧ ss.length ≤ maxLen ∧
    (ss = [] ∨ ∃ b off, a = ⟨b, off, none⟩ ∧ SRow w b off ss)

/-- An entry's data fit: its strings' lengths; its details read as said. -/
structure EntOk (w : World) (e : Ent) : Prop where
  file : e.file.size ≤ maxLen
  target : e.target.size ≤ maxLen
  check : e.check.size ≤ maxLen
  reason : e.reason.size ≤ maxLen
  err : e.err.size ≤ maxLen
  dls : ∀ s ∈ e.dl, s.size ≤ maxLen
  det : Strs w e.dv e.dl

/-- The slice value v reads in w as the entries es. -/
def Ents (w : World) (v : Value) (es : List Ent) : Prop :=
  ((v = .slice none 0 0 ∧ es = []) ∨ ∃ (a : Addr) (cap : Nat), v = .slice (some a) es.length cap ∧ es.length ≤ maxLen ∧
    (es = [] ∨ ∃ b off, a = ⟨b, off, none⟩ ∧ ERow w b off es)) ∧
  ∀ e ∈ es, EntOk w e

/-! ### Worlds that keep what was there -/
theorem SRow.keep {w w' : World} {b off : Nat} {ss : List ByteArray} (h : SRow w b off ss) (hb : Below w.heap.size w w') : SRow w' b off ss :=
  ⟨Nat.lt_of_lt_of_le h.1 hb.size, fun i hi => (hb.cell (p := ⟨b, off + i, none⟩) h.1).trans (h.2 i hi)⟩
theorem At.keepB {B : Nat} {w w' : World} {b o : Nat} {e : Ent} (h : At w b o e) (hlt : b < B) (hb : Below B w w') : At w' b o e :=
  ⟨(hb.cell (p := ⟨b, o, none⟩) hlt).trans h.c0, (hb.cell (p := ⟨b, o + 1, none⟩) hlt).trans h.c1, (hb.cell (p := ⟨b, o + 2, none⟩) hlt).trans h.c2, (hb.cell (p := ⟨b, o + 3, none⟩) hlt).trans h.c3,
   (hb.cell (p := ⟨b, o + 4, none⟩) hlt).trans h.c4, (hb.cell (p := ⟨b, o + 5, none⟩) hlt).trans h.c5, (hb.cell (p := ⟨b, o + 6, none⟩) hlt).trans h.c6, (hb.cell (p := ⟨b, o + 7, none⟩) hlt).trans h.c7⟩
theorem ERow.keep {w w' : World} {b off : Nat} {es : List Ent} (h : ERow w b off es) (hb : Below w.heap.size w w') : ERow w' b off es :=
  ⟨Nat.lt_of_lt_of_le h.1 hb.size, fun i hi => (h.2 i hi).keepB h.1 hb⟩
theorem Strs.keep {w w' : World} {v : Value} {ss : List ByteArray} (h : Strs w v ss) (hb : Below w.heap.size w w') : Strs w' v ss := by
  rcases h with h | ⟨a, cap, hv, hl, h | ⟨b, off, ha, hr⟩⟩
  · exact .inl h
  · exact .inr ⟨a, cap, hv, hl, .inl h⟩
  · exact .inr ⟨a, cap, hv, hl, .inr ⟨b, off, ha, hr.keep hb⟩⟩
theorem EntOk.keep {w w' : World} {e : Ent} (h : EntOk w e) (hb : Below w.heap.size w w') : EntOk w' e :=
  ⟨h.file, h.target, h.check, h.reason, h.err, h.dls, h.det.keep hb⟩
theorem Ents.keep {w w' : World} {v : Value} {es : List Ent} (h : Ents w v es) (hb : Below w.heap.size w w') : Ents w' v es := by
  obtain ⟨h1, h2⟩ := h
  refine ⟨?_, fun e he => (h2 e he).keep hb⟩
  rcases h1 with h | ⟨a, cap, hv, hl, h | ⟨b, off, ha, hr⟩⟩
  · exact .inl h
  · exact .inr ⟨a, cap, hv, hl, .inl h⟩
  · exact .inr ⟨a, cap, hv, hl, .inr ⟨b, off, ha, hr.keep hb⟩⟩

/-- What every walk over a slice of entries takes: its shape, its cells where there are any. -/
theorem Ents.shape {w : World} {v : Value} {es : List Ent} (h : Ents w v es) : ∃ (ao : Option Addr) (cap : Nat), v = .slice ao es.length cap ∧ es.length ≤ maxLen ∧
    (ao = none → es = [] ∧ cap = 0) ∧ (0 < es.length → ∃ b off, ao = some ⟨b, off, none⟩ ∧ ERow w b off es) := by
  rcases h.1 with ⟨rfl, rfl⟩ | ⟨a, cap, rfl, hl, h | ⟨b, off, rfl, hr⟩⟩
  · exact ⟨none, 0, rfl, by simp, fun _ => ⟨rfl, rfl⟩, fun h => by simp at h⟩
  · subst h; exact ⟨some a, cap, rfl, hl, fun h => (by cases h), fun h => by simp at h⟩
  · exact ⟨_, cap, rfl, hl, fun h => (by cases h), fun _ => ⟨b, off, rfl, hr⟩⟩
theorem Strs.shape {w : World} {v : Value} {ss : List ByteArray} (h : Strs w v ss) : ∃ (ao : Option Addr) (cap : Nat), v = .slice ao ss.length cap ∧ ss.length ≤ maxLen ∧
    (ao = none → ss = [] ∧ cap = 0) ∧ (0 < ss.length → ∃ b off, ao = some ⟨b, off, none⟩ ∧ SRow w b off ss) := by
  rcases h with ⟨rfl, rfl⟩ | ⟨a, cap, rfl, hl, h | ⟨b, off, rfl, hr⟩⟩
  · exact ⟨none, 0, rfl, by simp, fun _ => ⟨rfl, rfl⟩, fun h => by simp at h⟩
  · subst h; exact ⟨some a, cap, rfl, hl, fun h => (by cases h), fun h => by simp at h⟩
  · exact ⟨_, cap, rfl, hl, fun h => (by cases h), fun _ => ⟨b, off, rfl, hr⟩⟩

/-! ### Counting -/
/-- Does the entry carry an error message? -/
def Ent.isErr (e : Ent) : Bool := decide (0 < e.err.size)
/-- Does it count as passed? -/
def Ent.isPass (e : Ent) : Bool := !e.isErr && e.pass
/-- How many of the first k meet p. -/
def cnt (p : Ent → Bool) (es : List Ent) (k : Nat) : Nat := ((es.take k).filter p).length

theorem cnt_succ (p : Ent → Bool) (es : List Ent) (k : Nat) (h : k < es.length) : cnt p es (k + 1) = cnt p es k + if p (es.getD k ent0) = true then 1 else 0 := by
  unfold cnt
  rw [List.take_succ_eq_append_getElem h, List.filter_append, List.length_append]
  have e : es.getD k ent0 = es[k] := by simp [List.getD, h]
  rw [e]
  cases hp : p es[k] <;> simp [hp]
theorem cnt_le (p : Ent → Bool) (es : List Ent) (k : Nat) : cnt p es k ≤ k := by
  unfold cnt; exact Nat.le_trans (List.length_filter_le _ _) (List.length_take_le _ _)
end Go.Proofs.Qxb6630645a

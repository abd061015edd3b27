/-
  HOW THE ARGUMENTS LIE IN MEMORY: slices of strings, of steps, of slices of steps.
-/
import Derived.Test.Qxb6619706aRows
import Derived.WalkKit
import Derived.WalkSpells
import Derived.WalkLawsBesides
namespace Go.Proofs.Qxb6619706a
open Go.RowKit

theorem veil {S : Prop} (h : S) : Hid S := h
theorem ret_bool {a b : Bool} (h : a = b) : Ending.returned (.bool a) = .returned (.bool b) := by rw [h]
theorem ret_int {k : IntKind} {a b : Int} (h : a = b) : Ending.returned (.int k a) = .returned (.int k b) := by rw [h]

theorem lt_of_cell {w : World} {a : Addr} {v : Value} (h : w.cell? a = some v) : a.block < w.heap.size := by
  unfold World.cell? at h
  split at h
  · rename_i hh
    exact (Array.getElem?_eq_some_iff.1 hh).1
  · cases h

/-- The cell at a holds v. -/
theorem cell_below {w w' : World} {b o : Nat} {v : Value} (h : w.cell? ⟨b, o, none⟩ = some v) (hb : Below w.heap.size w w') : w'.cell? ⟨b, o, none⟩ = some v :=
  (hb.cell (p := ⟨b, o, none⟩) (lt_of_cell h)).trans h

/-! ### slices of strings -/
def StrsAt (w : World) (ad : Option Addr) (ss : List ByteArray) : Prop :=
  ∀ j, j < ss.length → ∃ b off, ad = some ⟨b, off, none⟩ ∧ w.cell? ⟨b, off + j, none⟩ = some (.string (ss.getD j ByteArray.empty))
theorem StrsAt.below {w w' : World} {ad : Option Addr} {ss : List ByteArray} (h : StrsAt w ad ss) (hb : Below w.heap.size w w') : StrsAt w' ad ss := by
  intro j hj
  obtain ⟨b, off, e, hc⟩ := h j hj
  exact ⟨b, off, e, cell_below hc hb⟩
theorem StrsAt.drewN {w : World} {ad : Option Addr} {ss : List ByteArray} (h : StrsAt w ad ss) (n : Nat) : StrsAt (w.drewN n) ad ss := h
theorem mem_getD {ss : List ByteArray} {k : Nat} (h : k < ss.length) : ss.getD k ByteArray.empty ∈ ss := by
  simp [List.getD, h]

/-! ### steps -/
structure Stp where
  tok : ByteArray
  fau : ByteArray
  st : Int
  ra : ByteArray
  bod : ByteArray

def Stp.none : Stp := ⟨ByteArray.empty, ByteArray.empty, 0, ByteArray.empty, ByteArray.empty⟩
def Stp.agg (s : Stp) : Value := .agg #[.string s.tok, .string s.fau, .int .i64 s.st, .string s.ra, .string s.bod]
def Stp.row (s : Stp) : List Value := [.string s.tok, .string s.fau, .int .i64 s.st, .string s.ra, .string s.bod]

/-- The five cells from off on hold the step s. -/
structure StpAt (w : World) (b off : Nat) (s : Stp) : Prop where
  c0 : w.cell? ⟨b, off, none⟩ = some (.string s.tok)
  c1 : w.cell? ⟨b, off + 1, none⟩ = some (.string s.fau)
  c2 : w.cell? ⟨b, off + 2, none⟩ = some (.int .i64 s.st)
  c3 : w.cell? ⟨b, off + 3, none⟩ = some (.string s.ra)
  c4 : w.cell? ⟨b, off + 4, none⟩ = some (.string s.bod)
theorem StpAt.below {w w' : World} {b off : Nat} {s : Stp} (h : StpAt w b off s) (hb : Below w.heap.size w w') : StpAt w' b off s :=
  ⟨cell_below h.c0 hb, cell_below h.c1 hb, cell_below h.c2 hb, cell_below h.c3 hb, cell_below h.c4 hb⟩

def StepsAt (w : World) (ad : Option Addr) (xs : List Stp) : Prop :=
  ∀ j, j < xs.length → ∃ b off, ad = some ⟨b, off, none⟩ ∧ StpAt w b (off + j * 5) (xs.getD j Stp.none)
theorem StepsAt.below {w w' : World} {ad : Option Addr} {xs : List Stp} (h : StepsAt w ad xs) (hb : Below w.heap.size w w') : StepsAt w' ad xs := by
  intro j hj
  obtain ⟨b, off, e, hc⟩ := h j hj
  exact ⟨b, off, e, hc.below hb⟩

/-- One list of steps: where it lies, its capacity, its steps. -/
structure Lst where
  a : Option Addr
  cap : Nat
  xs : List Stp
def Lst.none : Lst := ⟨Option.none, 0, []⟩
def Lst.val (l : Lst) : Value := .slice l.a l.xs.length l.cap

def ListsAt (w : World) (ad : Option Addr) (L : List Lst) : Prop :=
  ∀ j, j < L.length → (∃ b off, ad = some ⟨b, off, none⟩ ∧ w.cell? ⟨b, off + j, none⟩ = some (.slice (L.getD j Lst.none).a (L.getD j Lst.none).xs.length (L.getD j Lst.none).cap)) ∧ StepsAt w (L.getD j Lst.none).a (L.getD j Lst.none).xs
theorem ListsAt.below {w w' : World} {ad : Option Addr} {L : List Lst} (h : ListsAt w ad L) (hb : Below w.heap.size w w') : ListsAt w' ad L := by
  intro j hj
  obtain ⟨⟨b, off, e, hc⟩, hx⟩ := h j hj
  exact ⟨⟨b, off, e, cell_below hc hb⟩, hx.below hb⟩

/-! ### sizes -/
structure StpFits (m : Nat) (s : Stp) : Prop where
  tok : s.tok.size ≤ m
  fau : s.fau.size ≤ m
  ra : s.ra.size ≤ m
  bod : s.bod.size ≤ m
def ListsFit (m : Nat) (L : List Lst) : Prop := L.length ≤ m ∧ ∀ l ∈ L, l.xs.length ≤ m ∧ ∀ s ∈ l.xs, StpFits m s
def StrsFit (m : Nat) (ss : List ByteArray) : Prop := ss.length ≤ m ∧ ∀ s ∈ ss, s.size ≤ m

theorem lst_mem {L : List Lst} {k : Nat} (h : k < L.length) : L.getD k Lst.none ∈ L := by
  simp [List.getD, h]
theorem stp_mem {xs : List Stp} {k : Nat} (h : k < xs.length) : xs.getD k Stp.none ∈ xs := by
  simp [List.getD, h]

/-- 'It says true only where S holds, and nothing below B turns.' -/
def Told (S : Prop) (w : World) (e : Ending) (w' : World) : Prop := ∃ r, e = .returned (.bool r) ∧ (r = true → S) ∧ Below w.heap.size w w'
theorem told_no {S : Prop} {w w' : World} (h : Below w.heap.size w w') : Told S w (.returned (.bool false)) w' := ⟨false, rfl, by simp, h⟩
theorem told_yes {S : Prop} {w w' : World} (hb : Below w.heap.size w w') (h : S) : Told S w (.returned (.bool true)) w' := ⟨true, rfl, fun _ => h, hb⟩

end Go.Proofs.Qxb6619706a

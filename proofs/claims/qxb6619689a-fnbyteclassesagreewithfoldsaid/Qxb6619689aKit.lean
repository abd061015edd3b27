/-
  A VARIABLE OF TYPE [256]byte (or of a byte's kin): laid, read whole, written whole, as one row of 256 numbers; and the laws for the walk.
-/
import Derived.Test.Qxb6619689aRows
import Derived.WalkKit
import Derived.WalkSpells
import Derived.WalkLawsBesides
namespace Go.Proofs.Qxb6619689a
open Go.RowKit

/-- The cells of a table. -/
def cellsOf8 (A : List Int) : Array Value := (A.map (Value.int .u8)).toArray
def zeros : List Int := List.replicate 256 0

/-- Block b of w is a variable of type t whose 256 bytes are A. -/
def Tab (w : World) (b t : Nat) (A : List Int) : Prop := w.heap[b]? = some (.cells (cellsOf8 A) t (0, 0)) ∧ A.length = 256

theorem Tab.lt {w : World} {b t : Nat} {A : List Int} (h : Tab w b t A) : b < w.heap.size := (Array.getElem?_eq_some_iff.1 h.1).1
theorem Tab.cell {w : World} {b t : Nat} {A : List Int} (h : Tab w b t A) {k : Nat} (hk : k < 256) : w.cell? ⟨b, k, none⟩ = some (.int .u8 (A.getD k 0)) := by
  rw [cell_of_row w b k _ _ _ h.1]
  have := h.2
  simp [cellsOf8, List.getD, show k < A.length by omega]
theorem Tab.free {w : World} {b t : Nat} {A : List Int} (h : Tab w b t A) (k : Nat) : w.frozen? ⟨b, k, none⟩ = false := frozen_of_row w b k _ _ h.1
theorem Tab.set {w : World} {b t : Nat} {A : List Int} (h : Tab w b t A) (k : Nat) (n : Int) : Tab (w.setCell ⟨b, k, none⟩ (.int .u8 n)) b t (A.set k n) := by
  refine ⟨?_, by simpa using h.2⟩
  rw [heap_setCell_same w b k _ _ _ h.1]
  simp [cellsOf8]
theorem Tab.other {w : World} {b t b' : Nat} {A : List Int} (h : Tab w b t A) (hne : b ≠ b') (k : Nat) (v : Value) : Tab (w.setCell ⟨b', k, none⟩ v) b t A :=
  ⟨(Below.heap_setCell _ _ _ _ hne).trans h.1, h.2⟩
theorem Tab.alloc {w : World} {b t : Nat} {A : List Int} (h : Tab w b t A) (o : Obj) : Tab (w.alloc o) b t A :=
  ⟨(Below.heap_alloc _ _ _ h.lt).trans h.1, h.2⟩
theorem Tab.below {w w' : World} {b t : Nat} {A : List Int} (h : Tab w b t A) (hb : Below w.heap.size w w') : Tab w' b t A := ⟨(hb.block b h.lt).trans h.1, h.2⟩
theorem Tab.drewN {w : World} {b t : Nat} {A : List Int} (h : Tab w b t A) (n : Nat) : Tab (w.drewN n) b t A := h

/-! ### 'var t [256]byte' -/
theorem run_alloc23 (w : World) : (Instr.alloc 23 true (.tuple #[])).run Try.prog w = .ok (.pointer (some ⟨w.heap.size, 0, none⟩)) (w.alloc (.cells (cellsOf8 zeros) 23)) := by kernel_rfl
theorem run_alloc37 (w : World) : (Instr.alloc 37 true (.tuple #[])).run Try.prog w = .ok (.pointer (some ⟨w.heap.size, 0, none⟩)) (w.alloc (.cells (cellsOf8 zeros) 37)) := by kernel_rfl
theorem tab_alloc (w : World) (t : Nat) : Tab (w.alloc (.cells (cellsOf8 zeros) t)) w.heap.size t zeros := ⟨heap_alloc_new _ _, List.length_replicate⟩

theorem wpList_alloc_tab {P : Program} (w : World) {ops : Array Oper} {rest : List Oper} {o : Oper} {a : Act} {Q : Exit → Act → World → Prop} (hg : o.guard = none) (t : TypeId) (hop : o.op = Op.alloc t)
    (hrun : ∀ w, (Instr.alloc t true (.tuple #[])).run P w = .ok (.pointer (some ⟨w.heap.size, 0, none⟩)) (w.alloc (.cells (cellsOf8 zeros) t)))
    (hK : ∀ w', Tab w' w.heap.size t zeros → Below w.heap.size w w' → w.heap.size < w'.heap.size → wpList P ops Q rest (a.put o.dst (.pointer (some ⟨w.heap.size, 0, none⟩))) w') :
    wpList P ops Q (o :: rest) a w := by
  refine wpList_plain hg fun K' hK' => ?_
  unfold Oper.wp
  simp [execOp, hop, hrun, Result.andThen]
  exact hK' _ _ (hK _ (tab_alloc w t) ((Below.refl _ _).alloc (Nat.le_refl _) _) (by simp))

/-! ### a table written whole, read whole, handed back -/
theorem cellsOf8_size {A : List Int} (h : A.length = 256) : (cellsOf8 A).size = 256 := by simp [cellsOf8, h]
theorem run_store_tab {P : Program} (w : World) (g t ty : Nat) (A B : List Int) (hA : Tab w g t A) (hB : B.length = 256) (hi : (P.info? ty).map (·.size) = some 256) :
    (Instr.storeAt ty (.pointer (some ⟨g, 0, none⟩)) (.agg (cellsOf8 B))).run P w = .ok () (w.setRow g (cellsOf8 B)) := by
  have hst := run_storeCells_at P g 0 t (cellsOf8 B).toList 0 (cellsOf8 A) w hA.1 (by simp [cellsOf8_size hA.2, cellsOf8_size hB]) (by
    intro v hv
    simp only [cellsOf8, List.mem_map] at hv
    obtain ⟨n, _, rfl⟩ := hv
    rfl)
  have e : ((cellsOf8 A).toList.take (0 + 0) ++ (cellsOf8 B).toList ++ (cellsOf8 A).toList.drop (0 + 0 + (cellsOf8 B).toList.length)).toArray = cellsOf8 B := by
    rw [List.drop_of_length_le (by simp [cellsOf8_size hA.2, cellsOf8_size hB])]
    simp
  rw [e] at hst
  cases hq : P.info? ty with
  | none => simp [hq] at hi
  | some i =>
    have hs : i.size = 256 := by simpa [hq] using hi
    simp [Instr.storeAt, Instr.sureAddr, storeVar, sizeOf, typeInfo, hq, hs, Value.cells, cellsOf8_size hB, hst]
theorem tab_setRow {w : World} {g t : Nat} {A B : List Int} (hA : Tab w g t A) (hB : B.length = 256) : Tab (w.setRow g (cellsOf8 B)) g t B := ⟨setRow_heap _ _ _ _ _ _ hA.1, hB⟩
theorem grown_setRow (w : World) (g : Nat) (cs : Array Value) : w.grownBy (w.setRow g cs) (some g) :=
  ⟨rfl, rfl, rfl, by simp, fun k _ hk => setRow_other w g k cs (fun e => hk (by rw [e]))⟩

theorem wpList_store_tab {P : Program} (w : World) {ops : Array Oper} {rest : List Oper} {o : Oper} {a : Act} {Q : Exit → Act → World → Prop} (hg : o.guard = none) (ty : TypeId) (x v : Operand) (hop : o.op = Op.store ty x v)
    (hi : (P.info? ty).map (·.size) = some 256) (g t : Nat) (A B : List Int) (hx : a.eval x = .pointer (some ⟨g, 0, none⟩)) (hv : a.eval v = .agg (cellsOf8 B)) (hA : Tab w g t A) (hB : B.length = 256)
    (hK : ∀ w', Tab w' g t B → w.grownBy w' (some g) → wpList P ops Q rest (a.put o.dst undef) w') :
    wpList P ops Q (o :: rest) a w := by
  refine wpList_plain hg fun K' hK' => ?_
  unfold Oper.wp
  simp [execOp, hop, hx, hv, run_store_tab w g t ty A B hA hB hi, Result.andThen]
  exact hK' _ _ (hK _ (tab_setRow hA hB) (grown_setRow _ _ _))

theorem wpList_load_tab {P : Program} (w : World) {ops : Array Oper} {rest : List Oper} {o : Oper} {a : Act} {Q : Exit → Act → World → Prop} (hg : o.guard = none) (ty : TypeId) (x : Operand) (hop : o.op = Op.load ty x)
    (d : TypeDesc) (hu : P.underlying ty = some d) (hd : (match d with | .struct _ | .array _ _ => true | _ => false) = true) (hi : (P.info? ty).map (·.size) = some 256)
    (g t : Nat) (A : List Int) (hx : a.eval x = .pointer (some ⟨g, 0, none⟩)) (hA : Tab w g t A)
    (hK : wpList P ops Q rest (a.put o.dst (.agg (cellsOf8 A))) w) :
    wpList P ops Q (o :: rest) a w :=
  wpList_load_row hg ty x hop g hx t (cellsOf8 A) (0, 0) d hA.1 hu hd (by rw [cellsOf8_size hA.2]; exact hi) hK

theorem size23 : (Try.prog.info? 23).map (·.size) = some 256 := by kernel_rfl
theorem size37 : (Try.prog.info? 37).map (·.size) = some 256 := by kernel_rfl

end Go.Proofs.Qxb6619689a

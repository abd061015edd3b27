/-
  WALK: byteClasses, ZZbyteClasses.
-/
import Derived.Test.Qxb6619689aKit
import Derived.Lib.SlBytesConst
namespace Go.Proofs.Qxb6619689a
open Go.RowKit

/-! ### the table, as the Go text builds it -/
def spaces : List Nat := [32, 9, 13, 10, 12]
def spaced : Nat → List Int
  | 0 => zeros
  | k + 1 => (spaced k).set (spaces.getD k 0) 1
def marked : List Int := ((spaced 5).set 36 8).set 11 16
def isWord (b : Nat) : Bool := (decide (97 ≤ b) && decide (b ≤ 122)) || (decide (65 ≤ b) && decide (b ≤ 90)) || b == 95 || decide (128 ≤ b)
def isDigit (b : Nat) : Bool := decide (48 ≤ b) && decide (b ≤ 57)
def classed : Nat → List Int
  | 0 => marked
  | k + 1 => if isWord k then (classed k).set k 2 else if isDigit k then (classed k).set k 4 else classed k
def classT : List Int := classed 256

theorem spaces_lt : ∀ k, k < 5 → spaces.getD k 0 < 256 := by decide
theorem spaces_cell (w : World) : ∀ j, j < 5 → (w.alloc (.cells #[.int .u8 32, .int .u8 9, .int .u8 13, .int .u8 10, .int .u8 12] 5 (5, 6))).cell? ⟨w.heap.size, j, none⟩ = some (.int .u8 (spaces.getD j 0 : Nat)) := by
  intro j hj
  rw [cell_of_row _ _ _ _ _ _ (heap_alloc_new _ _)]
  match j, hj with
  | 0, _ => rfl
  | 1, _ => rfl
  | 2, _ => rfl
  | 3, _ => rfl
  | 4, _ => rfl

set_option maxRecDepth 100000 in
set_option maxHeartbeats 400000 in
theorem classes_any (w : World) : Calls Try.prog 21 #[] w fun e w' => e = .returned (.agg (cellsOf8 classT)) ∧ Below w.heap.size w w' := by
  have kc := fun (w : World) (C : Array Value) (n c : Nat) => Lib.run_convert_bytes_const (P := Try.prog) w 28 5 C n c Try.underlying28 Try.underlying5
  go_enter Try.func21, Try.ntmps21
  go_wp2_with (first | (refine wpList_alloc_tab w rfl 23 rfl run_alloc23 ?_; intro wa hTa hba hsa) | (refine wpList_alloc_tab _ rfl 23 rfl run_alloc23 ?_; intro wb hTb hbb hsb) | fail)
  clear kc
  have hsc := spaces_cell wb
  have hTb' := hTb.alloc (.cells #[.int .u8 32, .int .u8 9, .int .u8 13, .int .u8 10, .int .u8 12] 5 (5, 6))
  have hTa' := (hTa.below hbb).alloc (.cells #[.int .u8 32, .int .u8 9, .int .u8 13, .int .u8 10, .int .u8 12] 5 (5, 6))
  have hb' := (hba.trans (hbb.mono (Nat.le_of_lt hsa))).alloc (by omega) (.cells #[.int .u8 32, .int .u8 9, .int .u8 13, .int .u8 10, .int .u8 12] 5 (5, 6))
  go_loopw [8] (fun i wr => ∃ k : Nat, k ≤ 5 ∧ i = .int .i64 k ∧ Tab wr wa.heap.size 23 (spaced k) ∧ Tab wr w.heap.size 23 zeros ∧ (∀ j, j < 5 → wr.cell? ⟨wb.heap.size, j, none⟩ = some (.int .u8 (spaces.getD j 0 : Nat))) ∧ Below w.heap.size w wr) (fun i _ => 5 - (intOf i).toNat)
  case atStart => exact ⟨0, Nat.zero_le _, rfl, hTb', hTa', hsc, hb'⟩
  case round =>
    clear hsc hTb' hTa' hb' hTa hTb hba hbb
    obtain ⟨k, hk, rfl, hT, hR, hS, hb⟩ := hrel
    by_cases hlt : k < 5
    · have hcx := hS k hlt
      have hcl := spaces_lt k hlt
      have HST : Hid (∀ j, j < 5 → wr.cell? ⟨wb.heap.size, j, none⟩ = some (.int .u8 (spaces.getD j 0 : Nat))) := hS
      clear hS
      obtain ⟨c, hc⟩ : ∃ c, c = spaces.getD k 0 := ⟨_, rfl⟩
      rw [← hc] at hcx hcl
      have hf := hT.free c
      have ho := hT.cell (k := c) hcl
      have HC : Hid (c = spaces.getD k 0) := hc
      clear hc
      go_wp2
      go_roundw
      case rel =>
        refine ⟨k + 1, by omega, by go_num, ?_, hR.other (by omega) _ _, fun j hj => ?_, hb.setCell (Nat.le_of_lt hsa) _⟩
        · rw [spaced, ← HC.out]
          exact hT.set c 1
        · rw [World.cell?_of_block (w := wr) (Below.heap_setCell _ _ _ _ (by show wb.heap.size ≠ wa.heap.size; omega))]
          exact HST.out j hj
      case measure => simp [intOf]; omega
    · have e : k = 5 := by omega
      rw [e] at hT
      clear hS e
      have hf1 := hT.free 36
      have ho1 := hT.cell (k := 36) (by omega)
      have hT1 := hT.set 36 8
      have hf2 := hT1.free 11
      have ho2 := hT1.cell (k := 11) (by omega)
      have hT2 : Tab ((wr.setCell ⟨wa.heap.size, 36, none⟩ (.int .u8 8)).setCell ⟨wa.heap.size, 11, none⟩ (.int .u8 16)) wa.heap.size 23 (classed 0) := hT1.set 11 16
      have hR2 := (hR.other (show w.heap.size ≠ wa.heap.size by omega) 36 (.int .u8 8)).other (show w.heap.size ≠ wa.heap.size by omega) 11 (.int .u8 16)
      have hb2 := (hb.setCell (p := ⟨wa.heap.size, 36, none⟩) (Nat.le_of_lt hsa) (.int .u8 8)).setCell (p := ⟨wa.heap.size, 11, none⟩) (Nat.le_of_lt hsa) (.int .u8 16)
      clear hT hR hb hT1
      go_wp2
      go_loopw [4] (fun i wx => ∃ k : Nat, k ≤ 256 ∧ i = .int .i64 k ∧ Tab wx wa.heap.size 23 (classed k) ∧ Tab wx w.heap.size 23 zeros ∧ Below w.heap.size w wx) (fun i _ => 256 - (intOf i).toNat)
      case atStart => exact ⟨0, Nat.zero_le _, rfl, hT2, hR2, hb2⟩
      case round =>
        clear hT2 hR2 hb2 hf1 ho1 hf2 ho2 hk hlt
        obtain ⟨j, hj, rfl, hT, hR, hb⟩ := hrel
        by_cases hjl : j < 256
        · have hf := hT.free j
          have ho := hT.cell hjl
          by_cases hw : isWord j = true
          · have hT' := hT.set j 2
            rw [show (classed j).set j 2 = classed (j + 1) by rw [classed, if_pos hw]] at hT'
            have hw' : (97 ≤ j ∧ j ≤ 122) ∨ (65 ≤ j ∧ j ≤ 90) ∨ (95 ≤ j ∧ j ≤ 95) ∨ 128 ≤ j := by
              simp [isWord] at hw
              omega
            clear hw
            rcases hw' with ⟨h1, h2⟩ | ⟨h1, h2⟩ | ⟨h1, h2⟩ | h1
            all_goals
              go_wp2
              go_roundw
              case rel => exact ⟨j + 1, by omega, by go_num, hT', hR.other (by omega) _ _, hb.setCell (Nat.le_of_lt hsa) _⟩
              case measure => simp [intOf]; omega
          · have hw' : (j < 97 ∨ 122 < j) ∧ (j < 65 ∨ 90 < j) ∧ (j < 95 ∨ 95 < j) ∧ j < 128 := by
              simp [isWord] at hw
              omega
            by_cases hd : isDigit j = true
            · have hT' := hT.set j 4
              rw [show (classed j).set j 4 = classed (j + 1) by rw [classed, if_neg hw, if_pos hd]] at hT'
              have hd' : 48 ≤ j ∧ j ≤ 57 := by
                simp [isDigit] at hd
                exact hd
              obtain ⟨h1, h2⟩ := hd'
              clear hw hd hw'
              go_wp2
              go_roundw
              case rel => exact ⟨j + 1, by omega, by go_num, hT', hR.other (by omega) _ _, hb.setCell (Nat.le_of_lt hsa) _⟩
              case measure => simp [intOf]; omega
            · have hT' := hT
              rw [show classed j = classed (j + 1) by rw [classed, if_neg hw, if_neg hd]] at hT'
              have hd' : j < 48 ∨ 57 < j := by
                simp [isDigit] at hd
                omega
              have hz : j < 48 ∨ (57 < j ∧ j < 65) ∨ (90 < j ∧ j < 95) ∨ (95 < j ∧ j < 97) ∨ (122 < j ∧ j < 128) := by omega
              clear hw hd hw' hd'
              rcases hz with h1 | ⟨h1, h2⟩ | ⟨h1, h2⟩ | ⟨h1, h2⟩ | ⟨h1, h2⟩
              all_goals
                go_wp2
                go_roundw
                case rel => exact ⟨j + 1, by omega, by go_num, hT', hR, hb⟩
                case measure => simp [intOf]; omega
        · have e : j = 256 := by omega
          rw [e] at hT
          clear e
          have hT' : Tab wr wa.heap.size 23 classT := hT
          go_wp2_with (first | (refine wpList_load_tab _ rfl 23 _ rfl _ Try.underlying23 rfl size23 wa.heap.size 23 classT rfl hT' ?_) | (refine wpList_store_tab _ rfl 23 _ _ rfl size23 w.heap.size 23 zeros classT rfl rfl hR hT'.2 ?_; intro wz hTz hgz) | fail)
          refine bodyPost_ret (v := .agg (cellsOf8 classT)) (results_cell_row Try.results21 _ _ w.heap.size 23 (cellsOf8 classT) (0, 0) _ rfl hTz.1 Try.underlying23 rfl ?_) rfl ⟨rfl, hb.grown hgz hb.size (fun k hk => by cases hk; exact Nat.le_refl _)⟩
          rw [cellsOf8_size hTz.2]
          exact size23

set_option maxRecDepth 100000 in
set_option maxHeartbeats 400000 in
theorem zclasses_any (w : World) : Calls Try.prog 10 #[] w fun e w' => e = .returned (.agg (cellsOf8 classT)) ∧ Below w.heap.size w w' := by
  go_enter Try.func10, Try.ntmps10
  go_wp2_with (first | (refine wpList_alloc_tab _ rfl 23 rfl run_alloc23 ?_; intro wa hTa hba hsa) | fail)
  refine (classes_any wa).mono ?_
  rintro e wb ⟨rfl, hb⟩
  have hTb := hTa.below hb
  go_wp2_with (first | (refine wpList_store_tab _ rfl 23 _ _ rfl size23 w.heap.size 23 zeros classT rfl rfl hTb (by kernel_rfl) ?_; intro wz hTz hgz) | fail)
  refine bodyPost_ret (v := .agg (cellsOf8 classT)) (results_cell_row Try.results10 _ _ w.heap.size 23 (cellsOf8 classT) (0, 0) _ rfl hTz.1 Try.underlying23 rfl ?_) rfl ⟨rfl, ?_⟩
  · rw [cellsOf8_size hTz.2]
    exact size23
  · have hb2 := hba.trans (hb.mono (Nat.le_of_lt hsa))
    exact hb2.grown hgz hb2.size (fun k hk => by cases hk; exact Nat.le_refl _)
end Go.Proofs.Qxb6619689a

/-
  WALK: clientFoldTable, ZZclientFoldTable.
-/
import Derived.Test.Qxb6619689aKit
namespace Go.Proofs.Qxb6619689a
open Go.RowKit

/-! ### the table, as the Go text builds it -/
def isUpper (b : Nat) : Bool := decide (65 ≤ b) && decide (b ≤ 90)
def low : Nat → List Int
  | 0 => zeros
  | k + 1 => if isUpper k then ((low k).set k k).set k (k + 32) else (low k).set k k
def firsts : List Nat := [192, 199, 200, 204, 208, 209, 210, 217, 220]
def lasts : List Nat := [195, 199, 203, 207, 208, 209, 213, 219, 221]
def letters : List Nat := [97, 99, 101, 105, 100, 110, 111, 117, 121]
def runTo (A : List Int) (f c : Nat) : Nat → List Int
  | 0 => A
  | j + 1 => ((runTo A f c j).set (f + j) c).set (f + j + 32) c
def ranTo : Nat → List Int
  | 0 => low 256
  | r + 1 => runTo (ranTo r) (firsts.getD r 0) (letters.getD r 0) (lasts.getD r 0 + 1 - firsts.getD r 0)
def foldT : List Int := ranTo 9

theorem or32 : ∀ b : Nat, b < 224 → 192 ≤ b → bits .or .i64 (b : Int) 32 = (b : Int) + 32 := by decide +kernel

def runCells : Array Value := #[.int .u8 192, .int .u8 195, .int .u8 97, .int .u8 199, .int .u8 199, .int .u8 99, .int .u8 200, .int .u8 203, .int .u8 101, .int .u8 204, .int .u8 207, .int .u8 105, .int .u8 208, .int .u8 208, .int .u8 100, .int .u8 209, .int .u8 209, .int .u8 110, .int .u8 210, .int .u8 213, .int .u8 111, .int .u8 217, .int .u8 219, .int .u8 117, .int .u8 220, .int .u8 221, .int .u8 121]
def RunsAt (w : World) (b : Nat) : Prop := ∀ r, r < 9 → w.cell? ⟨b, r * 3, none⟩ = some (.int .u8 (firsts.getD r 0 : Nat)) ∧ w.cell? ⟨b, r * 3 + 1, none⟩ = some (.int .u8 (lasts.getD r 0 : Nat)) ∧ w.cell? ⟨b, r * 3 + 2, none⟩ = some (.int .u8 (letters.getD r 0 : Nat))
theorem runs_at (w : World) (t : Nat) : RunsAt (w.alloc (.cells runCells t)) w.heap.size := by
  intro r hr
  rw [cell_of_row _ _ _ _ _ _ (heap_alloc_new _ _), cell_of_row _ _ _ _ _ _ (heap_alloc_new _ _), cell_of_row _ _ _ _ _ _ (heap_alloc_new _ _)]
  match r, hr with
  | 0, _ => exact ⟨rfl, rfl, rfl⟩
  | 1, _ => exact ⟨rfl, rfl, rfl⟩
  | 2, _ => exact ⟨rfl, rfl, rfl⟩
  | 3, _ => exact ⟨rfl, rfl, rfl⟩
  | 4, _ => exact ⟨rfl, rfl, rfl⟩
  | 5, _ => exact ⟨rfl, rfl, rfl⟩
  | 6, _ => exact ⟨rfl, rfl, rfl⟩
  | 7, _ => exact ⟨rfl, rfl, rfl⟩
  | 8, _ => exact ⟨rfl, rfl, rfl⟩
theorem RunsAt.same {w w' : World} {b : Nat} (h : RunsAt w b) (hb : w'.heap[b]? = w.heap[b]?) : RunsAt w' b := by
  intro r hr
  have := h r hr
  rw [World.cell?_of_block (w := w) (w' := w') hb, World.cell?_of_block (w := w) (w' := w') hb, World.cell?_of_block (w := w) (w' := w') hb]
  exact this
theorem run_bounds : ∀ r, r < 9 → 192 ≤ firsts.getD r 0 ∧ firsts.getD r 0 ≤ lasts.getD r 0 ∧ lasts.getD r 0 ≤ 221 ∧ letters.getD r 0 ≤ 255 := by decide

set_option maxRecDepth 100000 in
set_option maxHeartbeats 400000 in
theorem fold_any (w : World) : Calls Try.prog 23 #[] w fun e w' => e = .returned (.agg (cellsOf8 foldT)) ∧ Below w.heap.size w w' := by
  go_enter Try.func23, Try.ntmps23
  go_wp2_with (first | (refine wpList_alloc_tab w rfl 37 rfl run_alloc37 ?_; intro wa hTa hba hsa) | (refine wpList_alloc_tab _ rfl 37 rfl run_alloc37 ?_; intro wb hTb hbb hsb) | fail)
  have hTa' := hTa.below hbb
  have hb' := hba.trans (hbb.mono (Nat.le_of_lt hsa))
  go_loopw [7] (fun i wr => ∃ k : Nat, k ≤ 256 ∧ i = .int .i64 k ∧ Tab wr wa.heap.size 37 (low k) ∧ Tab wr w.heap.size 37 zeros ∧ Below w.heap.size w wr) (fun i _ => 256 - (intOf i).toNat)
  case atStart => exact ⟨0, Nat.zero_le _, rfl, hTb, hTa', hb'⟩
  case round =>
    clear hTa' hb' hTa hTb hba hbb
    obtain ⟨k, hk, rfl, hT, hR, hb⟩ := hrel
    by_cases hlt : k < 256
    · have hf := hT.free k
      have ho := hT.cell hlt
      by_cases hu : isUpper k = true
      · have hT' := (hT.set k k).set k (k + 32)
        rw [show ((low k).set k k).set k (k + 32) = low (k + 1) by rw [low, if_pos hu]] at hT'
        have hu' : 65 ≤ k ∧ k ≤ 90 := by
          simp [isUpper] at hu
          exact hu
        obtain ⟨h1, h2⟩ := hu'
        clear hu
        go_wp2
        go_roundw
        case rel => exact ⟨k + 1, by omega, by go_num, hT', (hR.other (by omega) _ _).other (by omega) _ _, (hb.setCell (Nat.le_of_lt hsa) _).setCell (Nat.le_of_lt hsa) _⟩
        case measure => simp [intOf]; omega
      · have hT' := hT.set k k
        rw [show (low k).set k k = low (k + 1) by rw [low, if_neg hu]] at hT'
        have hu' : k < 65 ∨ 90 < k := by
          simp [isUpper] at hu
          omega
        clear hu
        rcases hu' with h1 | h1
        all_goals
          go_wp2
          go_roundw
          case rel => exact ⟨k + 1, by omega, by go_num, hT', hR.other (by omega) _ _, hb.setCell (Nat.le_of_lt hsa) _⟩
          case measure => simp [intOf]; omega
    · have e : k = 256 := by omega
      rw [e] at hT
      clear e
      have hT0 : Tab wr wa.heap.size 37 (ranTo 0) := hT
      clear hT
      have hTr := hT0.alloc (.cells runCells 44)
      have hRr := hR.alloc (.cells runCells 44)
      have hbr := hb.alloc hb.size (.cells runCells 44)
      have hrn := runs_at wr 44
      have hsr := hT0.lt
      clear hT0 hR hb
      unfold runCells at hTr hRr hbr hrn
      have hsN : wr.heap.size < (wr.alloc (.cells #[.int .u8 192, .int .u8 195, .int .u8 97, .int .u8 199, .int .u8 199, .int .u8 99, .int .u8 200, .int .u8 203, .int .u8 101, .int .u8 204, .int .u8 207, .int .u8 105, .int .u8 208, .int .u8 208, .int .u8 100, .int .u8 209, .int .u8 209, .int .u8 110, .int .u8 210, .int .u8 213, .int .u8 111, .int .u8 217, .int .u8 219, .int .u8 117, .int .u8 220, .int .u8 221, .int .u8 121] 44)).heap.size := by simp
      go_wp2
      generalize wr.heap.size = N at *
      go_loopw [38] (fun i wx => ∃ r : Nat, r ≤ 9 ∧ i = .int .i64 r ∧ Tab wx wa.heap.size 37 (ranTo r) ∧ Tab wx w.heap.size 37 zeros ∧ RunsAt wx N ∧ N < wx.heap.size ∧ Below w.heap.size w wx) (fun i _ => 9 - (intOf i).toNat)
      case atStart => exact ⟨0, Nat.zero_le _, rfl, hTr, hRr, hrn, hsN, hbr⟩
      case round =>
        clear hTr hRr hbr hrn hlt hk hsN
        obtain ⟨r, hr, rfl, hT, hR, hN, hs, hb⟩ := hrel
        by_cases hlt : r < 9
        · obtain ⟨c1, c2, c3⟩ := hN r hlt
          obtain ⟨b1, b2, b3, b4⟩ := run_bounds r hlt
          have HT : Hid (ranTo (r + 1) = runTo (ranTo r) (firsts.getD r 0) (letters.getD r 0) (lasts.getD r 0 + 1 - firsts.getD r 0)) := rfl
          generalize firsts.getD r 0 = f at *
          generalize lasts.getD r 0 = l at *
          generalize letters.getD r 0 = c at *
          have hTr := hT.alloc (.cells #[.int .u8 (f : Int), .int .u8 (l : Int), .int .u8 (c : Int)] 44)
          have hRr := hR.alloc (.cells #[.int .u8 (f : Int), .int .u8 (l : Int), .int .u8 (c : Int)] 44)
          have hNr := hN.same (w' := wr.alloc (.cells #[.int .u8 (f : Int), .int .u8 (l : Int), .int .u8 (c : Int)] 44)) (Below.heap_alloc _ _ _ hs)
          have hbr := hb.alloc hb.size (.cells #[.int .u8 (f : Int), .int .u8 (l : Int), .int .u8 (c : Int)] 44)
          have hM := heap_alloc_new wr (.cells #[.int .u8 (f : Int), .int .u8 (l : Int), .int .u8 (c : Int)] 44)
          have hTl := hT.lt
          clear hT hR hN hb
          go_wp2
          generalize wr.heap.size = M at *
          go_loopw [6] (fun i wy => ∃ j : Nat, f + j ≤ l + 1 ∧ i = .int .i64 (f + j : Nat) ∧ Tab wy wa.heap.size 37 (runTo (ranTo r) f c j) ∧ Tab wy w.heap.size 37 zeros ∧ RunsAt wy N ∧ wy.heap[M]? = some (.cells #[.int .u8 (f : Int), .int .u8 (l : Int), .int .u8 (c : Int)] 44 (0, 0)) ∧ Below w.heap.size w wy) (fun i _ => l + 1 - (intOf i).toNat)
          case atStart => exact ⟨0, by omega, rfl, hTr, hRr, hNr, hM, hbr⟩
          case round =>
            clear hTr hRr hNr hbr hM c1 c2 c3
            obtain ⟨j, hj, rfl, hT, hR, hN, hM, hb⟩ := hrel
            have m1 := cell_of_row wr M 0 _ _ _ hM
            have m2 := cell_of_row wr M 1 _ _ _ hM
            have m3 := cell_of_row wr M 2 _ _ _ hM
            have HB : Hid (runTo (ranTo r) f c (j + 1) = ((runTo (ranTo r) f c j).set (f + j) c).set (f + j + 32) c) := rfl
            obtain ⟨b, hbe⟩ : ∃ b, b = f + j := ⟨_, rfl⟩
            have HE : Hid (b = f + j) := hbe
            rw [← hbe] at HB hj ⊢
            clear hbe
            by_cases hbl : b ≤ l
            · have hor := or32 b (by omega) (by have := HE.out; omega)
              have f1 := hT.free b
              have f2 := hT.free (b + 32)
              have o1 := hT.cell (k := b) (by omega)
              have o2 := hT.cell (k := b + 32) (by omega)
              have HM : Hid (wr.heap[M]? = some (.cells #[.int .u8 (f : Int), .int .u8 (l : Int), .int .u8 (c : Int)] 44 (0, 0))) := hM
              clear hM
              go_wp2
              go_region
              go_wp2
              go_roundw
              case rel =>
                refine ⟨j + 1, by have := HE.out; omega, ?_, ?_, (hR.other (by omega) _ _).other (by omega) _ _, ?_, ?_, ((hb.setCell (Nat.le_of_lt hsa) _).setCell (Nat.le_of_lt hsa) _).drew⟩
                · have := HE.out
                  exact congrArg (Value.int .i64) (by omega)
                · rw [HB.out]
                  exact (hT.set b c).set (b + 32) c
                · exact hN.same ((Below.heap_setCell _ _ _ _ (by show N ≠ wa.heap.size; omega)).trans (Below.heap_setCell _ _ _ _ (by show N ≠ wa.heap.size; omega)))
                · exact ((Below.heap_setCell _ _ _ _ (by show M ≠ wa.heap.size; omega)).trans (Below.heap_setCell _ _ _ _ (by show M ≠ wa.heap.size; omega))).trans HM.out
              case measure => simp [intOf]; omega
            · have hjl : j = l + 1 - f := by have := HE.out; omega
              have HT' : Hid (ranTo (r + 1) = runTo (ranTo r) f c j) := by show _ = _; rw [HT.out, hjl]
              have hMs : M < wr.heap.size := (Array.getElem?_eq_some_iff.1 hM).1
              clear hjl hM HB HE
              go_wp2
              go_roundw
              case rel => exact ⟨r + 1, by omega, by go_num, by rw [HT'.out]; exact hT, hR, hN, by omega, hb⟩
              case measure => simp [intOf]; omega
        · have e : r = 9 := by omega
          rw [e] at hT
          clear e
          have hT' : Tab wr wa.heap.size 37 foldT := hT
          go_wp2_with (first | (refine wpList_load_tab _ rfl 37 _ rfl _ Try.underlying37 rfl size37 wa.heap.size 37 foldT rfl hT' ?_) | (refine wpList_store_tab _ rfl 37 _ _ rfl size37 w.heap.size 37 zeros foldT rfl rfl hR hT'.2 ?_; intro wz hTz hgz) | fail)
          refine bodyPost_ret (v := .agg (cellsOf8 foldT)) (results_cell_row Try.results23 _ _ w.heap.size 37 (cellsOf8 foldT) (0, 0) _ rfl hTz.1 Try.underlying37 rfl ?_) rfl ⟨rfl, hb.grown hgz hb.size (fun k hk => by cases hk; exact Nat.le_refl _)⟩
          rw [cellsOf8_size hTz.2]
          exact size37

theorem fold_length : foldT.length = 256 := by decide +kernel

set_option maxRecDepth 100000 in
set_option maxHeartbeats 400000 in
theorem zfold_any (w : World) : Calls Try.prog 18 #[] w fun e w' => e = .returned (.agg (cellsOf8 foldT)) ∧ Below w.heap.size w w' := by
  go_enter Try.func18, Try.ntmps18
  go_wp2_with (first | (refine wpList_alloc_tab _ rfl 37 rfl run_alloc37 ?_; intro wa hTa hba hsa) | fail)
  refine (fold_any wa).mono ?_
  rintro e wb ⟨rfl, hb⟩
  have hTb := hTa.below hb
  go_wp2_with (first | (refine wpList_store_tab _ rfl 37 _ _ rfl size37 w.heap.size 37 zeros foldT rfl rfl hTb fold_length ?_; intro wz hTz hgz) | fail)
  refine bodyPost_ret (v := .agg (cellsOf8 foldT)) (results_cell_row Try.results18 _ _ w.heap.size 37 (cellsOf8 foldT) (0, 0) _ rfl hTz.1 Try.underlying37 rfl ?_) rfl ⟨rfl, ?_⟩
  · rw [cellsOf8_size hTz.2]
    exact size37
  · have hb2 := hba.trans (hb.mono (Nat.le_of_lt hsa))
    exact hb2.grown hgz hb2.size (fun k hk => by cases hk; exact Nat.le_refl _)
end Go.Proofs.Qxb6619689a

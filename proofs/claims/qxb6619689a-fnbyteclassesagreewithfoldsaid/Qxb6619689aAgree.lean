/-
  WALK: FnByteClassesAgreeWithFold.
-/
import Derived.Test.Qxb6619689aFoldT
import Derived.Test.Qxb6619689aClasses
import Derived.Deep.QuietTactic
import Derived.BigQuiet
import Derived.Deep.DeepCutAuto
namespace Go.Proofs.Qxb6619689a
open Go.RowKit

/-! ### what the kernel says of the two tables -/
def foldA (b : Nat) : Nat := (foldT.getD b 0).toNat
theorem foldA_at : ∀ b, b < 256 → foldT.getD b 0 = (foldA b : Int) ∧ foldA b < 256 ∧ classT.getD (foldA b) 0 = classT.getD b 0 ∧ (foldA b = b ∨ classT.getD b 0 = 2) := by decide +kernel
theorem class_length' : classT.length = 256 := by decide +kernel

set_option maxRecDepth 100000 in
set_option maxHeartbeats 1000000 in
theorem law_agree (b : Nat) (hb : b < 256) (w : World) : Calls Try.prog 8 #[.int .u8 (b : Int)] w fun e w' => e = .returned (.bool true) ∧ Below w.heap.size w w' := by
  go_enter Try.func8, Try.ntmps8
  go_wp2_with fail
  refine (zclasses_any w).mono ?_
  rintro e w1 ⟨rfl, hb1⟩
  go_wp2_with (first | (refine wpList_alloc_tab _ rfl 23 rfl run_alloc23 ?_; intro wa hTa hba hsa) | (refine wpList_store_tab _ rfl 23 _ _ rfl size23 w1.heap.size 23 zeros classT rfl rfl hTa class_length' ?_; intro wz hTz hgz) | fail)
  have hbw : Below w.heap.size w wz := (hb1.trans (hba.mono hb1.size)).grown hgz (Nat.le_trans hb1.size (Nat.le_of_lt hsa)) (fun k hk => by cases hk; exact hb1.size)
  clear hTa hgz hba hsa
  generalize w1.heap.size = B at *
  clear hb1
  refine (zfold_any wz).mono ?_
  rintro e w2 ⟨rfl, hb2⟩
  have hTc := hTz.below hb2
  have hbw2 := hbw.trans (hb2.mono hbw.size)
  have hBl := hTc.lt
  clear hTz hb2 hbw
  go_upto_region 3 with (first | (refine wpList_alloc_tab _ rfl 37 rfl run_alloc37 ?_; intro wa hTa hba hsa) | (refine wpList_store_tab _ rfl 37 _ _ rfl size37 w2.heap.size 37 zeros foldT rfl rfl hTa fold_length ?_; intro wy hTy hgy) | fail)
  have hTc' : Tab wy B 23 classT := by
    refine ⟨?_, hTc.2⟩
    have hTx := hTc.below hba
    exact (hgy.block B hTx.lt (by simp; omega)).trans hTx.1
  have hbw : Below w.heap.size w wy := (hbw2.trans (hba.mono hbw2.size)).grown hgy (Nat.le_trans hbw2.size (Nat.le_of_lt hsa)) (fun k hk => by cases hk; exact hbw2.size)
  clear hTc hbw2 hTa hba hsa hgy
  generalize w2.heap.size = C at *
  go_frame
  obtain ⟨t1, t2, t3, t4⟩ := foldA_at b hb
  have hcb := hTy.cell hb
  rw [t1] at hcb
  have hk1 := hTc'.cell t2
  have hk2 := hTc'.cell hb
  rw [t3] at hk1
  clear t1 t3 hTy hTc'
  by_cases h4 : foldA b = b
  · rw [h4] at hcb hk1 t2
    clear t4 h4
    generalize classT.getD b 0 = c at *
    go_wp2
    go_quiet (fail)
    go_wp2
    go_ret
    exact ⟨rfl, below_drewN hbw _⟩
  · have h5 : classT.getD b 0 = 2 := by
      rcases t4 with t4 | t4
      · exact absurd t4 h4
      · exact t4
    rw [h5] at hk1 hk2
    generalize foldA b = f at *
    have h6 : ((f : Int) == (b : Int)) = false := beq_eq_false_iff_ne.2 (by omega)
    have h7 : ((f : Int) != (b : Int)) = true := by rw [bne, h6]; rfl
    clear t4 h4 h5
    go_wp2
    go_quiet (fail)
    go_wp2
    go_ret
    exact ⟨rfl, below_drewN hbw _⟩
end Go.Proofs.Qxb6619689a

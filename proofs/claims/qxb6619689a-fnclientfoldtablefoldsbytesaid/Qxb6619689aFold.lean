/-
  WALK: FnClientFoldTableFoldsByte.
-/
import Derived.Test.Qxb6619689aFoldT
import Derived.Deep.QuietTactic
import Derived.BigQuiet
import Derived.Deep.DeepCutAuto
namespace Go.Proofs.Qxb6619689a
open Go.RowKit

/-! ### what the kernel says of the table -/
def fold (b : Nat) : Nat := (foldT.getD b 0).toNat
theorem fold_at : ∀ b, b < 256 → foldT.getD b 0 = (fold b : Int) ∧ fold b < 256 ∧ foldT.getD (fold b) 0 = (fold b : Int) := by decide +kernel
theorem fold_upper : ∀ b, b < 256 → 65 ≤ b → b ≤ 90 → fold b = b + 32 := by decide +kernel
theorem fold_below : ∀ b, b < 256 → b < 65 → fold b = b := by decide +kernel
theorem fold_mid : ∀ b, b < 256 → 90 < b → b < 192 → fold b = b := by decide +kernel
theorem fold_high : ∀ b, b < 256 → 192 ≤ b → (b ^^^ 32) < 256 ∧ (if fold b = b then foldT.getD (b ^^^ 32) 0 = ((b ^^^ 32 : Nat) : Int) else 97 ≤ fold b ∧ fold b ≤ 122 ∧ foldT.getD (b ^^^ 32) 0 = (fold b : Int)) := by decide +kernel
theorem xor32 : ∀ b : Nat, b < 256 → bits .xor .u8 (b : Int) 32 = ((b ^^^ 32 : Nat) : Int) := by decide +kernel

set_option maxRecDepth 100000 in
set_option maxHeartbeats 1000000 in
theorem law_fold (b : Nat) (hb : b < 256) (w : World) : Calls Try.prog 6 #[.int .u8 (b : Int)] w fun e w' => e = .returned (.bool true) ∧ Below w.heap.size w w' := by
  go_enter Try.func6, Try.ntmps6
  go_wp2_with fail
  refine (zfold_any w).mono ?_
  rintro e w1 ⟨rfl, hb1⟩
  go_upto_region 2 with (first | (refine wpList_alloc_tab _ rfl 37 rfl run_alloc37 ?_; intro wa hTa hba hsa) | (refine wpList_store_tab _ rfl 37 _ _ rfl size37 w1.heap.size 37 zeros foldT rfl rfl hTa fold_length ?_; intro wz hTz hgz) | fail)
  have hbw : Below w.heap.size w wz := (hb1.trans (hba.mono hb1.size)).grown hgz (Nat.le_trans hb1.size (Nat.le_of_lt hsa)) (fun k hk => by cases hk; exact hb1.size)
  clear hTa hgz hba hsa
  generalize w1.heap.size = B at *
  clear hb1
  go_frame
  obtain ⟨t1, t2, t3⟩ := fold_at b hb
  have hcb := hTz.cell hb
  have hcf := hTz.cell t2
  rw [t1] at hcb
  rw [t3] at hcf
  clear t1 t3
  by_cases h1 : b < 65
  · rw [fold_below b hb h1] at hcb hcf t2
    go_wp2
    go_ret
    exact ⟨rfl, hbw⟩
  · by_cases h2 : b ≤ 90
    · rw [fold_upper b hb (by omega) h2] at hcb hcf t2
      go_wp2
      go_ret
      exact ⟨rfl, hbw⟩
    · by_cases h3 : b < 192
      · rw [fold_mid b hb (by omega) h3] at hcb hcf t2
        by_cases h4 : b < 128
        · go_wp2
          go_ret
          exact ⟨rfl, hbw⟩
        · go_wp2
          go_ret
          exact ⟨rfl, hbw⟩
      · obtain ⟨p1, p2⟩ := fold_high b hb (by omega)
        have hx := xor32 b hb
        have hcp := hTz.cell p1
        generalize b ^^^ 32 = p at *
        by_cases h4 : fold b = b
        · rw [if_pos h4] at p2
          rw [p2] at hcp
          rw [h4] at hcb hcf t2
          clear p2 h4
          go_wp2
          go_ret
          exact ⟨rfl, hbw⟩
        · rw [if_neg h4] at p2
          obtain ⟨q1, q2, q3⟩ := p2
          rw [q3] at hcp
          clear q3
          generalize fold b = f at *
          have h5 : ((f : Int) == (b : Int)) = false := beq_eq_false_iff_ne.2 (by omega)
          clear h4
          go_wp2
          go_ret
          exact ⟨rfl, hbw⟩
end Go.Proofs.Qxb6619689a

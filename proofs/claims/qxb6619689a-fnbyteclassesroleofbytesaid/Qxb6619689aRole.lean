/-
  WALKS: zzASCIILetter, zzRole, FnByteClassesRoleOfByte.
-/
import Derived.Test.Qxb6619689aClasses
import Derived.Deep.QuietTactic
import Derived.BigQuiet
namespace Go.Proofs.Qxb6619689a
open Go.RowKit

def isLetter (b : Nat) : Bool := (decide (97 ≤ b) && decide (b ≤ 122)) || (decide (65 ≤ b) && decide (b ≤ 90))

theorem ret_bool {a b : Bool} (h : a = b) : Ending.returned (.bool a) = .returned (.bool b) := by rw [h]

set_option maxHeartbeats 400000 in
theorem letter_any (b : Nat) (_hb : b < 256) (w : World) : Calls Try.prog 19 #[.int .u8 (b : Int)] w fun e w' => e = .returned (.bool (isLetter b)) ∧ w' = w := by
  have hc : ((97 ≤ b ∧ b ≤ 122) ∧ isLetter b = true) ∨ ((65 ≤ b ∧ b ≤ 90) ∧ isLetter b = true) ∨ (b < 65 ∧ isLetter b = false) ∨ ((90 < b ∧ b < 97) ∧ isLetter b = false) ∨ (122 < b ∧ isLetter b = false) := by
    simp only [isLetter, Bool.or_eq_true, Bool.and_eq_true, decide_eq_true_eq, Bool.or_eq_false_iff, Bool.and_eq_false_iff, decide_eq_false_iff_not]
    omega
  rcases hc with ⟨⟨h1, h2⟩, hl⟩ | ⟨⟨h1, h2⟩, hl⟩ | ⟨h1, hl⟩ | ⟨⟨h1, h2⟩, hl⟩ | ⟨h1, hl⟩
  all_goals
    rw [hl]
    clear hl
    go_enter Try.func19, Try.ntmps19
    go_wp2
    go_ret
    exact ⟨ret_bool (by first | rfl | (simp; omega)), rfl⟩

def role (b : Nat) : Int := if isWord b then 2 else if isDigit b then 4 else if b == 32 || b == 9 || b == 13 || b == 10 || b == 12 then 1 else if b == 36 then 8 else if b == 11 then 16 else 0

theorem ret_int {k : IntKind} {a b : Int} (h : a = b) : Ending.returned (.int k a) = .returned (.int k b) := by rw [h]

theorem role_hi : ∀ b, b < 256 → 128 ≤ b → b ≤ 255 → role b = 2 := by decide +kernel
theorem role_95 : ∀ b, b < 256 → 95 ≤ b → b ≤ 95 → role b = 2 := by decide +kernel
theorem role_az : ∀ b, b < 256 → 97 ≤ b → b ≤ 122 → role b = 2 := by decide +kernel
theorem role_AZ : ∀ b, b < 256 → 65 ≤ b → b ≤ 90 → role b = 2 := by decide +kernel
theorem role_09 : ∀ b, b < 256 → 48 ≤ b → b ≤ 57 → role b = 4 := by decide +kernel
theorem role_a : ∀ b, b < 256 → 0 ≤ b → b ≤ 8 → role b = 0 := by decide +kernel
theorem role_b : ∀ b, b < 256 → 14 ≤ b → b ≤ 31 → role b = 0 := by decide +kernel
theorem role_c : ∀ b, b < 256 → 33 ≤ b → b ≤ 35 → role b = 0 := by decide +kernel
theorem role_d : ∀ b, b < 256 → 37 ≤ b → b ≤ 47 → role b = 0 := by decide +kernel
theorem role_e : ∀ b, b < 256 → 58 ≤ b → b ≤ 64 → role b = 0 := by decide +kernel
theorem role_f : ∀ b, b < 256 → 91 ≤ b → b ≤ 94 → role b = 0 := by decide +kernel
theorem role_g : ∀ b, b < 256 → 96 ≤ b → b ≤ 96 → role b = 0 := by decide +kernel
theorem role_h : ∀ b, b < 256 → 123 ≤ b → b ≤ 127 → role b = 0 := by decide +kernel

set_option maxRecDepth 100000 in
set_option maxHeartbeats 1000000 in
/-- A byte in one of the stretches that the tests part. -/
theorem role_stretch (b : Nat) (hb : b < 256) (w : World) (lo hi : Nat) (v : Int) (hr : ∀ b, b < 256 → lo ≤ b → b ≤ hi → role b = v) (h1 : lo ≤ b) (h2 : b ≤ hi)
    (hin : (lo, hi, v) ∈ [(128, 255, (2 : Int)), (95, 95, 2), (97, 122, 2), (65, 90, 2), (48, 57, 4), (0, 8, 0), (14, 31, 0), (33, 35, 0), (37, 47, 0), (58, 64, 0), (91, 94, 0), (96, 96, 0), (123, 127, 0)]) :
    Calls Try.prog 11 #[.int .u8 (b : Int)] w fun e w' => e = .returned (.int .u8 (role b)) ∧ w' = w := by
  rw [hr b hb h1 h2]
  clear hr
  have hL := letter_any b hb
  have HLt : Hid (∀ w, Calls Try.prog 19 #[.int .u8 (b : Int)] w fun e w' => e = .returned (.bool (isLetter b)) ∧ w' = w) := hL
  clear hL
  simp only [List.mem_cons, Prod.mk.injEq, List.mem_nil_iff, or_false] at hin
  rcases hin with h | h | h | h | h | h | h | h | h | h | h | h | h
  all_goals
    obtain ⟨rfl, rfl, rfl⟩ := h
  · go_enter Try.func11, Try.ntmps11
    go_wp2
    go_ret
    exact ⟨rfl, rfl⟩
  · go_enter Try.func11, Try.ntmps11
    go_wp2
    go_ret
    exact ⟨rfl, rfl⟩
  · have hl : isLetter b = true := by simp [isLetter]; omega
    rw [hl] at HLt
    have f1 : decide ((128 : Int) ≤ (b : Int)) = false := decide_eq_false (by omega)
    have f2 : ((b : Int) == 95) = false := beq_eq_false_iff_ne.2 (by omega)
    clear hl
    go_enter Try.func11, Try.ntmps11
    go_wp2_with (go_at_call 19; refine (HLt.out _).mono ?_; rintro e w' ⟨rfl, rfl⟩)
    go_ret
    exact ⟨rfl, rfl⟩
  · have hl : isLetter b = true := by simp [isLetter]; omega
    rw [hl] at HLt
    have f1 : decide ((128 : Int) ≤ (b : Int)) = false := decide_eq_false (by omega)
    have f2 : ((b : Int) == 95) = false := beq_eq_false_iff_ne.2 (by omega)
    clear hl
    go_enter Try.func11, Try.ntmps11
    go_wp2_with (go_at_call 19; refine (HLt.out _).mono ?_; rintro e w' ⟨rfl, rfl⟩)
    go_ret
    exact ⟨rfl, rfl⟩
  all_goals
    have hl : isLetter b = false := by simp [isLetter]; omega
    rw [hl] at HLt
    have f1 : decide ((128 : Int) ≤ (b : Int)) = false := decide_eq_false (by omega)
    have f2 : ((b : Int) == 95) = false := beq_eq_false_iff_ne.2 (by omega)
    have g1 : ((b : Int) == 32) = false := beq_eq_false_iff_ne.2 (by omega)
    have g2 : ((b : Int) == 9) = false := beq_eq_false_iff_ne.2 (by omega)
    have g3 : ((b : Int) == 13) = false := beq_eq_false_iff_ne.2 (by omega)
    have g4 : ((b : Int) == 10) = false := beq_eq_false_iff_ne.2 (by omega)
    have g5 : ((b : Int) == 12) = false := beq_eq_false_iff_ne.2 (by omega)
    have g6 : ((b : Int) == 36) = false := beq_eq_false_iff_ne.2 (by omega)
    have g7 : ((b : Int) == 11) = false := beq_eq_false_iff_ne.2 (by omega)
    clear hl
    go_enter Try.func11, Try.ntmps11
    go_wp2_with (go_at_call 19; refine (HLt.out _).mono ?_; rintro e w' ⟨rfl, rfl⟩)
    go_ret
    exact ⟨rfl, rfl⟩

set_option maxRecDepth 100000 in
set_option maxHeartbeats 1000000 in
/-- The seven bytes that are tested one by one. -/
theorem role_lone (b : Nat) (w : World) (hin : b ∈ [32, 9, 13, 10, 12, 36, 11]) : Calls Try.prog 11 #[.int .u8 (b : Int)] w fun e w' => e = .returned (.int .u8 (role b)) ∧ w' = w := by
  have HLt : Hid (∀ w, Calls Try.prog 19 #[.int .u8 (b : Int)] w fun e w' => e = .returned (.bool (isLetter b)) ∧ w' = w) := letter_any b (by simp at hin; omega)
  simp only [List.mem_cons, List.mem_nil_iff, or_false] at hin
  rcases hin with rfl | rfl | rfl | rfl | rfl | rfl | rfl
  all_goals
    go_enter Try.func11, Try.ntmps11
    go_wp2_with (go_at_call 19; refine (HLt.out _).mono ?_; rintro e w' ⟨rfl, rfl⟩)
    go_ret
    exact ⟨rfl, rfl⟩

theorem role_any (b : Nat) (hb : b < 256) (w : World) : Calls Try.prog 11 #[.int .u8 (b : Int)] w fun e w' => e = .returned (.int .u8 (role b)) ∧ w' = w := by
  have hc : 128 ≤ b ∨ (95 ≤ b ∧ b ≤ 95) ∨ (97 ≤ b ∧ b ≤ 122) ∨ (65 ≤ b ∧ b ≤ 90) ∨ (48 ≤ b ∧ b ≤ 57) ∨ b ≤ 8 ∨ (14 ≤ b ∧ b ≤ 31) ∨ (33 ≤ b ∧ b ≤ 35) ∨ (37 ≤ b ∧ b ≤ 47) ∨ (58 ≤ b ∧ b ≤ 64) ∨ (91 ≤ b ∧ b ≤ 94) ∨ (96 ≤ b ∧ b ≤ 96) ∨ (123 ≤ b ∧ b ≤ 127) ∨
      (b = 32 ∨ b = 9 ∨ b = 13 ∨ b = 10 ∨ b = 12 ∨ b = 36 ∨ b = 11) := by omega
  rcases hc with h | h | h | h | h | h | h | h | h | h | h | h | h | h
  · exact role_stretch b hb w 128 255 2 role_hi h (by omega) (by decide)
  · exact role_stretch b hb w 95 95 2 role_95 h.1 h.2 (by decide)
  · exact role_stretch b hb w 97 122 2 role_az h.1 h.2 (by decide)
  · exact role_stretch b hb w 65 90 2 role_AZ h.1 h.2 (by decide)
  · exact role_stretch b hb w 48 57 4 role_09 h.1 h.2 (by decide)
  · exact role_stretch b hb w 0 8 0 role_a (Nat.zero_le _) h (by decide)
  · exact role_stretch b hb w 14 31 0 role_b h.1 h.2 (by decide)
  · exact role_stretch b hb w 33 35 0 role_c h.1 h.2 (by decide)
  · exact role_stretch b hb w 37 47 0 role_d h.1 h.2 (by decide)
  · exact role_stretch b hb w 58 64 0 role_e h.1 h.2 (by decide)
  · exact role_stretch b hb w 91 94 0 role_f h.1 h.2 (by decide)
  · exact role_stretch b hb w 96 96 0 role_g h.1 h.2 (by decide)
  · exact role_stretch b hb w 123 127 0 role_h h.1 h.2 (by decide)
  · exact role_lone b w (by simp; omega)

theorem class_role : ∀ b, b < 256 → classT.getD b 0 = role b := by decide +kernel
theorem class_length : classT.length = 256 := by decide +kernel

set_option maxRecDepth 100000 in
set_option maxHeartbeats 1000000 in
theorem law_role (b : Nat) (hb : b < 256) (w : World) : Calls Try.prog 3 #[.int .u8 (b : Int)] w fun e w' => e = .returned (.bool true) ∧ Below w.heap.size w w' := by
  go_enter Try.func3, Try.ntmps3
  go_wp2_with fail
  refine (zclasses_any w).mono ?_
  rintro e w1 ⟨rfl, hb1⟩
  go_wp2_with (first | (refine wpList_alloc_tab _ rfl 23 rfl run_alloc23 ?_; intro wa hTa hba hsa) | (refine wpList_store_tab _ rfl 23 _ _ rfl size23 w1.heap.size 23 zeros classT rfl rfl hTa class_length ?_; intro wz hTz hgz) | fail)
  have hcx := hTz.cell hb
  rw [class_role b hb] at hcx
  have hbw : Below w.heap.size w wz := (hb1.trans (hba.mono hb1.size)).grown hgz (Nat.le_trans hb1.size (Nat.le_of_lt hsa)) (fun k hk => by cases hk; exact hb1.size)
  clear hTz hTa hgz hba hsa
  go_frame
  go_quiet ((go_at_call 11; exact Calls.quiet_of_same (role_any b hb _)))
  go_wp2
  go_ret
  exact ⟨rfl, below_drewN hbw _⟩
end Go.Proofs.Qxb6619689a

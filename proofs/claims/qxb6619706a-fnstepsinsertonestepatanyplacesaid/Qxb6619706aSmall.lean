/-
  WALKS: zzPairs, zzLast, zzSame.
-/
import Derived.Test.Qxb6619706aKit
import Derived.Deep.QuietTactic
import Derived.BigQuiet
namespace Go.Proofs.Qxb6619706a
open Go.RowKit

theorem pairs_any (a1 a2 : Option Addr) (n1 n2 c1 c2 : Nat) (_f1 : n1 ≤ 1048576) (_f2 : n2 ≤ 1048576) (w : World) :
    Calls Try.prog 7 #[.slice a1 n1 c1, .slice a2 n2 c2] w fun e w' => e = .returned (.int .i64 ((min n1 n2 : Nat) : Int)) ∧ w' = w := by
  by_cases h : n2 < n1
  · go_enter Try.func7, Try.ntmps7
    go_wp2
    go_ret
    exact ⟨ret_int (by omega), rfl⟩
  · go_enter Try.func7, Try.ntmps7
    go_wp2
    go_ret
    exact ⟨ret_int (by omega), rfl⟩

/-- The last place among the first n at which q stands; -1 where there is none. -/
def lastTo (ns : List ByteArray) (q : ByteArray) : Nat → Int
  | 0 => -1
  | k + 1 => if ((ns.getD k ByteArray.empty).toList == q.toList) = true then (k : Int) else lastTo ns q k

theorem last_any (a : Option Addr) (len cap n : Nat) (ns : List ByteArray) (q : ByteArray) (w : World) (hl : Hid (ns.length = len)) (hlen : len ≤ 1048576) (hn : n ≤ len) (hs : StrsAt w a ns) :
    Calls Try.prog 13 #[.slice a len cap, .int .i64 (n : Int), .string q] w fun e w' => e = .returned (.int .i64 (lastTo ns q n)) ∧ w' = w := by
  go_enter Try.func13, Try.ntmps13
  go_wp2
  go_loop [7, 8] (fun z i => ∃ k : Nat, k ≤ n ∧ i = .int .i64 (k : Int) ∧ z = .int .i64 (lastTo ns q k)) (fun _ i => n - (intOf i).toNat)
  case atStart => exact ⟨0, Nat.zero_le _, rfl, rfl⟩
  case round =>
    obtain ⟨k, hk, rfl, rfl⟩ := hrel
    by_cases hlt : k < n
    · obtain ⟨b, off, rfl, hc⟩ := hs k (by rw [hl.out]; omega)
      have HL : Hid (lastTo ns q (k + 1) = if ((ns.getD k ByteArray.empty).toList == q.toList) = true then (k : Int) else lastTo ns q k) := rfl
      generalize ns.getD k ByteArray.empty = x at *
      by_cases hx : (x.toList == q.toList) = true
      · rw [if_pos hx] at HL
        go_wp2
        go_round
        case rel => exact ⟨k + 1, by omega, by go_num, by rw [HL.out]⟩
        case measure => simp [intOf]; omega
      · rw [if_neg hx] at HL
        have hx' : (x.toList == q.toList) = false := by simpa using hx
        clear hx
        go_wp2
        go_round
        case rel => exact ⟨k + 1, by omega, by go_num, by rw [HL.out]⟩
        case measure => simp [intOf]; omega
    · have e : k = n := by omega
      subst e
      go_wp2
      go_ret
      exact ⟨rfl, rfl⟩

/-- The answer and the wish are the same list, and the answer is nil just if it is empty. -/
theorem same_any (a1 a2 : Option Addr) (n c1 c2 : Nat) (ts : List ByteArray) (w : World) (hl : Hid (ts.length = n)) (hn : n ≤ 1048577) (hnil : a1.isNone = (n == 0)) (h1 : StrsAt w a1 ts) (h2 : StrsAt w a2 ts) :
    Calls Try.prog 12 #[.slice a1 n c1, .slice a2 n c2] w fun e w' => e = .returned (.bool true) ∧ ∃ m, w' = w.drewN m := by
  have hnn := fun w => @Lib.run_eql_slice_nil Try.prog w 22 9
  have hz : ((n : Int) == 0) = (n == 0) := by
    rw [Bool.eq_iff_iff]; simp
  generalize (n == 0) = z at hz hnil
  go_enter Try.func12, Try.ntmps12
  go_wp2
  go_loopw [5] (fun i wr => ∃ k m : Nat, k ≤ n ∧ i = .int .i64 (k : Int) ∧ wr = w.drewN m) (fun i _ => n - (intOf i).toNat)
  case atStart => exact ⟨0, 0, Nat.zero_le _, rfl, rfl⟩
  case round =>
    obtain ⟨k, m, hk, rfl, rfl⟩ := hrel
    by_cases hlt : k < n
    · obtain ⟨b1, o1, rfl, d1⟩ := h1 k (by rw [hl.out]; omega)
      obtain ⟨b2, o2, rfl, d2⟩ := h2 k (by rw [hl.out]; omega)
      generalize ts.getD k ByteArray.empty = x at *
      go_wp2
      go_quiet (fail)
      go_wp2
      go_roundw
      case rel => exact ⟨k + 1, m + nq, by omega, by go_num, rfl⟩
      case measure => simp [intOf]; omega
    · go_wp2
      go_ret
      exact ⟨rfl, m, rfl⟩
end Go.Proofs.Qxb6619706a

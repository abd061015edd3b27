/-
  WALKS: the two zzBytes functions.
-/
import Derived.Test.Qxb6619603aHas
namespace Go.Proofs.Qxb6619603a
open Go.RowKit

def Small (ss : List ByteArray) (p : ByteArray) : Prop := ss.length ≤ 1048576 ∧ (∀ s ∈ ss, s.size ≤ 1048576) ∧ p.size ≤ 1048576

/-- 'It says true only where S holds, and turns nothing.' -/
def Told (S : Prop) (w : World) (e : Ending) (w' : World) : Prop := ∃ r, e = .returned (.bool r) ∧ (r = true → S) ∧ w' = w
theorem told_no {S : Prop} {w : World} : Told S w (.returned (.bool false)) w := ⟨false, rfl, by simp, rfl⟩
theorem told_yes {S : Prop} {w : World} (h : S) : Told S w (.returned (.bool true)) w := ⟨true, rfl, fun _ => h, rfl⟩

theorem small_snoc {ss : List ByteArray} {k : Nat} (hk : k < ss.length) {s : ByteArray} (hs : s = ss[k]) (h : ∀ x ∈ ss.take k, x.size ≤ 1048576) (h1 : s.size ≤ 1048576) : ∀ x ∈ ss.take (k + 1), x.size ≤ 1048576 := by
  intro x hx
  rw [List.take_succ_eq_append_getElem hk, List.mem_append] at hx
  rcases hx with hx | hx
  · exact h x hx
  · rw [List.mem_singleton] at hx
    rw [hx, ← hs]; exact h1

set_option maxHeartbeats 400000 in
theorem bytes5 (ad : Option Addr) (cap : Nat) (ss : List ByteArray) (j : Int) (p : ByteArray) (w : World) (hm : ss.length ≤ maxLen) (hsz : ∀ s ∈ ss, s.size ≤ maxLen) (hp : p.size ≤ maxLen) (hs : StrsAt w ad ss) :
    Calls Try.prog 5 #[.slice ad ss.length cap, .int .i64 j, .string p] w (Told (Small ss p) w) := by
  unfold maxLen at hm hp
  by_cases hbig : ss.length ≤ 1048576
  · go_enter Try.func5, Try.ntmps5
    go_wp2
    go_loop [7, 8] (fun z i => ∃ k t : Nat, k ≤ ss.length ∧ t ≤ 1048576 ∧ i = .int .i64 k ∧ z = .int .i64 t ∧ ∀ s ∈ ss.take k, s.size ≤ 1048576) (fun _ i => ss.length - (intOf i).toNat)
    case atStart => exact ⟨0, ss.length, Nat.zero_le _, hbig, rfl, rfl, by simp⟩
    case round =>
      obtain ⟨k, t, hk, ht, rfl, rfl, hall⟩ := hrel
      by_cases hlt : k < ss.length
      · obtain ⟨b, off, rfl, hc⟩ := hs k hlt
        obtain ⟨s, hs1⟩ : ∃ s, s = ss.getD k ByteArray.empty := ⟨_, rfl⟩
        rw [← hs1] at hc
        have hs2 : s = ss[k] := by rw [hs1]; simp [List.getD, hlt]
        have hss : s.size ≤ maxLen := hsz s (by rw [hs2]; exact List.getElem_mem hlt)
        unfold maxLen at hss
        have HS : Hid (s = ss[k]) := hs2
        clear hs1 hs2
        go_wp2
        · go_ret
          exact told_no
        · go_ret
          exact told_no
        · go_round
          case rel => exact ⟨k + 1, t + s.size, by omega, by omega, by go_num, by go_num, small_snoc hlt HS.out hall (by omega)⟩
          case measure => simp [intOf]; omega
      · have e : k = ss.length := by omega
        subst e
        go_wp2
        · go_ret
          exact told_no
        · go_ret
          exact told_no
        · go_ret
          exact told_yes ⟨hbig, by rw [List.take_length] at hall; exact hall, by omega⟩
  · go_enter Try.func5, Try.ntmps5
    go_wp2
    go_ret
    exact told_no

set_option maxHeartbeats 400000 in
theorem bytes9 (ad : Option Addr) (cap : Nat) (ss : List ByteArray) (p : ByteArray) (w : World) (hm : ss.length ≤ maxLen) (hsz : ∀ s ∈ ss, s.size ≤ maxLen) (hp : p.size ≤ maxLen) (hs : StrsAt w ad ss) :
    Calls Try.prog 9 #[.slice ad ss.length cap, .string p] w (Told (Small ss p) w) := by
  unfold maxLen at hm hp
  by_cases hbig : ss.length ≤ 1048576
  · go_enter Try.func9, Try.ntmps9
    go_wp2
    go_loop [5, 6] (fun z i => ∃ k t : Nat, k ≤ ss.length ∧ t ≤ 1048576 ∧ i = .int .i64 k ∧ z = .int .i64 t ∧ ∀ s ∈ ss.take k, s.size ≤ 1048576) (fun _ i => ss.length - (intOf i).toNat)
    case atStart => exact ⟨0, ss.length, Nat.zero_le _, hbig, rfl, rfl, by simp⟩
    case round =>
      obtain ⟨k, t, hk, ht, rfl, rfl, hall⟩ := hrel
      by_cases hlt : k < ss.length
      · obtain ⟨b, off, rfl, hc⟩ := hs k hlt
        obtain ⟨s, hs1⟩ : ∃ s, s = ss.getD k ByteArray.empty := ⟨_, rfl⟩
        rw [← hs1] at hc
        have hs2 : s = ss[k] := by rw [hs1]; simp [List.getD, hlt]
        have hss : s.size ≤ maxLen := hsz s (by rw [hs2]; exact List.getElem_mem hlt)
        unfold maxLen at hss
        have HS : Hid (s = ss[k]) := hs2
        clear hs1 hs2
        go_wp2
        · go_ret
          exact told_no
        · go_ret
          exact told_no
        · go_round
          case rel => exact ⟨k + 1, t + s.size, by omega, by omega, by go_num, by go_num, small_snoc hlt HS.out hall (by omega)⟩
          case measure => simp [intOf]; omega
      · have e : k = ss.length := by omega
        subst e
        go_wp2
        · go_ret
          exact told_no
        · go_ret
          exact told_no
        · go_ret
          exact told_yes ⟨hbig, by rw [List.take_length] at hall; exact hall, by omega⟩
  · go_enter Try.func9, Try.ntmps9
    go_wp2
    go_ret
    exact told_no
end Go.Proofs.Qxb6619603a

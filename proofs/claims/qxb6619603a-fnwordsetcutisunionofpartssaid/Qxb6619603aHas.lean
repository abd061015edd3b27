/-
  WALKS: hasWord; how a slice of strings lies in memory.
-/
import Derived.Test.Qxb6619603aRows
import Derived.Test.Qxb6619603aPlain
import Derived.WalkKit
import Derived.WalkSpells
import Derived.WalkLawsBesides
namespace Go.Proofs.Qxb6619603a
open Go.RowKit

/-- The slice at 'ad' holds the strings 'ss' in the world w. -/
def StrsAt (w : World) (ad : Option Addr) (ss : List ByteArray) : Prop :=
  ∀ j, j < ss.length → ∃ b off, ad = some ⟨b, off, none⟩ ∧ w.cell? ⟨b, off + j, none⟩ = some (.string (ss.getD j ByteArray.empty))

theorem lt_of_cell {w : World} {a : Addr} {v : Value} (h : w.cell? a = some v) : a.block < w.heap.size := by
  unfold World.cell? at h
  split at h
  · rename_i hh
    exact (Array.getElem?_eq_some_iff.1 hh).1
  · cases h
theorem StrsAt.below {w w' : World} {ad : Option Addr} {ss : List ByteArray} (h : StrsAt w ad ss) (hb : Below w.heap.size w w') : StrsAt w' ad ss := by
  intro j hj
  obtain ⟨b, off, e, hc⟩ := h j hj
  have hl := lt_of_cell hc
  exact ⟨b, off, e, (hb.cell (p := ⟨b, off + j, none⟩) hl).trans hc⟩

theorem ret_bool {a b : Bool} (h : a = b) : Ending.returned (.bool a) = .returned (.bool b) := by rw [h]

set_option maxHeartbeats 400000 in
theorem has_any (ad : Option Addr) (cap : Nat) (ss : List ByteArray) (p : ByteArray) (w : World) (hn : ss.length ≤ 1048576) (hs : StrsAt w ad ss) :
    Calls Try.prog 7 #[.slice ad ss.length cap, .string p] w fun e w' => e = .returned (.bool (hasB ss p)) ∧ w' = w := by
  go_enter Try.func7, Try.ntmps7
  go_wp2
  go_loop [5] (fun i => ∃ k : Nat, k ≤ ss.length ∧ i = .int .i64 k ∧ hasB (ss.take k) p = false) (fun i => ss.length - (intOf i).toNat)
  case atStart => exact ⟨0, Nat.zero_le _, rfl, by simp [hasB]⟩
  case round =>
    obtain ⟨k, hk, rfl, hno⟩ := hrel
    by_cases hlt : k < ss.length
    · obtain ⟨b, off, rfl, hc⟩ := hs k hlt
      obtain ⟨s, hs1⟩ : ∃ s, s = ss.getD k ByteArray.empty := ⟨_, rfl⟩
      rw [← hs1] at hc
      have hs2 : s = ss[k] := by rw [hs1]; simp [List.getD, hlt]
      have HS : Hid (s = ss[k]) := hs2
      clear hs1 hs2
      have HN : Hid (hasB (ss.take k) p = false) := hno
      clear hno
      go_wp2
      · have ht : (s.toList == p.toList) = true := by assumption
        go_ret
        refine ⟨ret_bool ?_, rfl⟩
        symm
        rw [hasB_iff]
        have : s = p := toList_inj' (by simpa using ht)
        rw [← this, HS.out]
        exact List.getElem_mem hlt
      · have ht : (s.toList == p.toList) = false := by assumption
        go_round
        case rel =>
          refine ⟨k + 1, by omega, by go_num, ?_⟩
          have hne : p ≠ s := fun e => by simp [e] at ht
          have hno := HN.out
          rw [hasB_false] at hno ⊢
          rw [List.take_succ_eq_append_getElem hlt, ← HS.out]
          simp [hno, hne]
        case measure => simp [intOf]; omega
    · have e : k = ss.length := by omega
      subst e
      have HN : Hid (hasB (ss.take ss.length) p = false) := hno
      clear hno
      go_wp2
      go_ret
      refine ⟨ret_bool ?_, rfl⟩
      rw [← HN.out, List.take_length]
end Go.Proofs.Qxb6619603a

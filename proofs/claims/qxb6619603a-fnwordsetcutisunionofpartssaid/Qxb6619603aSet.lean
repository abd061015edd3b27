/-
  WALKS: wordSet, ZZwordSet; a look-up in a map[string]bool.
-/
import Derived.Test.Qxb6619603aHas
import Derived.Maps.OwnSet
namespace Go.Proofs.Qxb6619603a
open Go.RowKit Go.Maps Go.WideMaps

theorem law9 : Keyed Try.prog 9 := string_keyed Try.underlying9
theorem zero4 (w : World) : (zeroValue 4).run Try.prog w = .ok (.bool false) w := by kernel_rfl
theorem make_hint (n : Nat) (w : World) : (Instr.makeMap 24 (some (.int .i64 (n : Int)))).run Try.prog w = .ok (.map (some w.heap.size)) (w.alloc (.map #[] 0)) := by
  simp [Instr.makeMap, run_underlying Try.underlying24, go_sem]

/-- The map in block b is the set of the strings ss. -/
def SetAt (w : World) (b : Nat) (ss : List ByteArray) : Prop := ∃ n, w.ownsMap Try.prog 9 (plainElem (H := Unit) Try.prog 4) b n (Sn ss)

theorem SetAt.below {w w' : World} {b : Nat} {ss : List ByteArray} (h : SetAt w b ss) (hb : Below w.heap.size w w') : SetAt w' b ss := by
  obtain ⟨n, h⟩ := h
  have hl := h.lt
  obtain ⟨es, clock, hh, r⟩ := h
  exact ⟨n, es, clock, (hb.block b hl).trans hh, r⟩
theorem SetAt.lt {w : World} {b : Nat} {ss : List ByteArray} (h : SetAt w b ss) : b < w.heap.size := by
  obtain ⟨n, h⟩ := h
  exact h.lt
theorem SetAt.look {w : World} {b : Nat} {ss : List ByteArray} (h : SetAt w b ss) {p : ByteArray} (hp : p.size ≤ maxLen) :
    (Instr.lookup 24 (.map (some b)) (.string p) false).run Try.prog w = .ok (.bool (hasB ss p)) w := by
  obtain ⟨n, h⟩ := h
  obtain ⟨v, ps, hrun, hv⟩ := h.lookup law9 Try.underlying24 (zero4 w) (plainElem_bool Try.underlying4 false) (keyOf_string_mk Try.underlying9 hp)
  rw [Sn_at] at hv
  have e : v = .bool (hasB ss p) := by
    unfold plainElem at hv
    rw [Try.underlying4] at hv
    cases v <;> simp at hv
    rw [hv.1]
  rw [hrun, e]
theorem SetAt.len {w : World} {b : Nat} {ss : List ByteArray} (h : SetAt w b ss) (ty : TypeId) :
    (Builtin.len_ #[24] ty #[.map (some b)]).run Try.prog w = .ok (.int .i64 (dcount ss)) w := by
  obtain ⟨n, h⟩ := h
  rw [h.len Try.underlying24, Sn_size]

set_option maxHeartbeats 400000 in
theorem set_any (ad : Option Addr) (cap : Nat) (ss : List ByteArray) (w : World) (hn : ss.length ≤ 4194304) (hs : StrsAt w ad ss) (hsz : ∀ s ∈ ss, s.size ≤ maxLen) :
    Calls Try.prog 10 #[.slice ad ss.length cap] w fun e w' => e = .returned (.map (some w.heap.size)) ∧ SetAt w' w.heap.size ss ∧ Below w.heap.size w w' := by
  have hmm := make_hint
  go_enter Try.func10, Try.ntmps10
  go_wp2
  go_loopw [11] (fun i wr => ∃ k : Nat, k ≤ ss.length ∧ i = .int .i64 k ∧ wr.ownsMap Try.prog 9 (plainElem Try.prog 4) w.heap.size k (Sn (ss.take k)) ∧ Below w.heap.size w wr)
    (fun i _ => ss.length - (intOf i).toNat)
  case atStart => exact ⟨0, Nat.zero_le _, rfl, by rw [List.take_zero, Sn_nil]; exact World.ownsMap_made _ _ _ _, (Below.refl _ _).alloc (Nat.le_refl _) _⟩
  case round =>
    obtain ⟨k, hk, rfl, hown, hnx⟩ := hrel
    by_cases hlt : k < ss.length
    · obtain ⟨b, off, rfl, hc⟩ := hs k hlt
      have hcx := (hnx.cell (p := ⟨b, off + k, none⟩) (lt_of_cell hc)).trans hc
      clear hc
      obtain ⟨s, hs1⟩ : ∃ s, s = ss.getD k ByteArray.empty := ⟨_, rfl⟩
      rw [← hs1] at hcx
      have hs2 : s = ss[k] := by rw [hs1]; simp [List.getD, hlt]
      have HS : Hid (s = ss[k]) := hs2
      have hkey : keyOf Try.prog 9 (.string s) = some (.string s.data.toList) := keyOf_string_mk Try.underlying9 (hsz _ (by rw [hs2]; exact List.getElem_mem hlt))
      clear hs1 hs2
      go_wp2_with (first
        | (at_mapUpdate; refine wpList_mapUpdate_own _ rfl _ _ _ 24 rfl 9 4 law9 Try.underlying24 (plainElem (H := Unit) Try.prog 4) w.heap.size k _ rfl hown (by unfold maxLen; omega) _ _ _ rfl rfl hkey _ [] (plainElem_bool Try.underlying4 true) ?_; intro w1 hown1 hgrow1)
        | go_in)
      go_roundw
      case rel =>
        refine ⟨k + 1, by omega, by go_num, ?_, hnx.grown hgrow1 hnx.size (fun j hj => by cases hj; exact Nat.le_refl _)⟩
        rw [List.take_succ_eq_append_getElem hlt, ← HS.out, Sn_snoc]
        exact hown1
      case measure => simp [intOf]; omega
    · have e : k = ss.length := by omega
      subst e
      go_wp2
      go_ret
      rw [List.take_length] at hown
      exact ⟨rfl, ⟨ss.length, hown⟩, hnx⟩

set_option maxHeartbeats 400000 in
theorem zset_any (ad : Option Addr) (cap : Nat) (ss : List ByteArray) (w : World) (hn : ss.length ≤ 4194304) (hs : StrsAt w ad ss) (hsz : ∀ s ∈ ss, s.size ≤ maxLen) :
    Calls Try.prog 6 #[.slice ad ss.length cap] w fun e w' => e = .returned (.map (some w.heap.size)) ∧ SetAt w' w.heap.size ss ∧ Below w.heap.size w w' := by
  go_enter Try.func6, Try.ntmps6
  go_wp2_with fail
  refine (set_any ad cap ss _ hn hs hsz).mono ?_
  rintro e w' ⟨rfl, h1, h2⟩
  go_wp2
  go_ret
  exact ⟨rfl, h1, h2⟩
end Go.Proofs.Qxb6619603a

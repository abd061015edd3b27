/-
  WALKS: distinctCount.
-/
import Derived.Test.Qxb6619603aSort
namespace Go.Proofs.Qxb6619603a
open Go.RowKit

/-- In a sorted list an element stands among those ahead of it just if it is the one right ahead. -/
theorem sorted_has {ts : List ByteArray} (h : Sorted ts) {k : Nat} (hk : k + 1 < ts.length) : hasB (ts.take (k + 1)) (ts.getD (k + 1) e0) = ((ts.getD (k + 1) e0).toList == (ts.getD k e0).toList) := by
  have e1 : ts.getD (k + 1) e0 = ts[k + 1] := by simp [List.getD, hk]
  have e2 : ts.getD k e0 = ts[k] := by simp [List.getD, show k < ts.length by omega]
  rw [e1, e2, Bool.eq_iff_iff, hasB_iff, beq_iff_eq]
  constructor
  · intro hm
    obtain ⟨i, hi, he⟩ := List.mem_iff_getElem.1 hm
    simp at hi
    simp at he
    unfold Sorted at h
    rw [List.pairwise_iff_getElem] at h
    by_cases hik : i = k
    · subst hik; rw [he]
    · have a1 := h i k (by omega) (by omega) (by omega)
      have a2 := h k (k + 1) (by omega) (by omega) (by omega)
      rw [he] at a1
      rw [leB_antisymm a2 a1]
  · intro he
    rw [toList_inj' he]
    exact List.mem_iff_getElem.2 ⟨k, by simp; omega, by simp⟩

theorem ret_int {k : IntKind} {a b : Int} (h : a = b) : Ending.returned (.int k a) = .returned (.int k b) := by rw [h]

set_option maxRecDepth 100000 in
set_option maxHeartbeats 1000000 in
theorem count_any (ad : Option Addr) (cap : Nat) (ss : List ByteArray) (w : World) (hn : ss.length ≤ 4194304) (hs : StrsAt w ad ss) :
    Calls Try.prog 8 #[.slice ad ss.length cap] w fun e w' => e = .returned (.int .i64 (dcount ss)) ∧ Below w.heap.size w w' := by
  go_enter Try.func8, Try.ntmps8
  go_wp2_with fail
  refine (sort_any ad cap ss w hn hs).mono ?_
  rintro e w1 ⟨b, ts, rfl, hrow, hperm, hsort, hb1⟩
  have hlen := hperm.length_eq
  have hfin := dcount_congr (l := ts) (l' := ss) (fun x => hperm.mem_iff)
  have HF : Hid (dcount ts = dcount ss) := hfin
  have HL : Hid (ts.length = ss.length) := hlen
  clear hfin hlen hperm
  obtain ⟨n, hln⟩ : ∃ n, n = ss.length := ⟨_, rfl⟩
  rw [← hln] at hn ⊢
  have HN : Hid (n = ss.length) := hln
  clear hln
  go_wp2
  go_loopw [4, 5] (fun c i wr => ∃ k : Nat, k ≤ n ∧ i = .int .i64 k ∧ c = .int .i64 (dcount (ts.take k)) ∧ RowS wr b ts ∧ Below w.heap.size w wr) (fun _ i _ => n - (intOf i).toNat)
  case atStart => exact ⟨0, Nat.zero_le _, rfl, rfl, hrow, hb1⟩
  case round =>
    clear hrow hb1
    obtain ⟨k, hk, rfl, rfl, hrow, hb1⟩ := hrel
    have hdl : dcount (ts.take k) ≤ k := Nat.le_trans (dcount_length _) (List.length_take_le _ _)
    by_cases hlt : k < n
    · have htl : k < ts.length := by rw [HL.out, ← HN.out]; exact hlt
      have hcx := hrow.cell (k := k) htl
      have hsn : dcount (ts.take (k + 1)) = if hasB (ts.take k) (ts.getD k e0) then dcount (ts.take k) else dcount (ts.take k) + 1 := by
        rw [take_snoc' htl, dcount_snoc]
      obtain ⟨s, hs1⟩ : ∃ s, s = ts.getD k e0 := ⟨_, rfl⟩
      rw [← hs1] at hcx hsn
      have HS : Hid (dcount (ts.take (k + 1)) = if hasB (ts.take k) s then dcount (ts.take k) else dcount (ts.take k) + 1) := hsn
      clear hsn
      obtain ⟨d, hd⟩ : ∃ d, d = dcount (ts.take k) := ⟨_, rfl⟩
      rw [← hd] at hdl HS ⊢
      by_cases hk0 : k = 0
      · have hz : ((k : Int) == 0) = true := beq_iff_eq.2 (by omega)
        have hh : hasB (ts.take k) s = false := by rw [hk0]; rfl
        rw [hh] at HS
        clear hs1 hd hh hk0
        go_wp2
        go_quiet (fail)
        go_wp2
        go_roundw
        case rel => exact ⟨k + 1, by omega, by go_num, congrArg (Value.int .i64) (by rw [HS.out]; simp), hrow.drewN _, below_drewN hb1 _⟩
        case measure => simp [intOf]; omega
      · obtain ⟨j, rfl⟩ : ∃ j, k = j + 1 := ⟨k - 1, by omega⟩
        have hcy := hrow.cell (k := j) (by omega)
        have hh := sorted_has hsort htl
        obtain ⟨t, ht1⟩ : ∃ t, t = ts.getD j e0 := ⟨_, rfl⟩
        rw [← ht1] at hh hcy
        rw [← hs1] at hh
        rw [hh] at HS
        clear hs1 hd hh hk0 ht1
        have hz : ((j : Int) + 1 == 0) = false := beq_eq_false_iff_ne.2 (by omega)
        by_cases hst : (s.toList == t.toList) = true
        · rw [hst] at HS
          go_wp2
          go_quiet (fail)
          go_wp2
          go_roundw
          case rel => exact ⟨j + 1 + 1, by omega, by go_num, congrArg (Value.int .i64) (by rw [HS.out]; simp), hrow.drewN _, below_drewN hb1 _⟩
          case measure => simp [intOf]; omega
        · have hst' : (s.toList == t.toList) = false := by simpa using hst
          rw [hst'] at HS
          clear hst
          go_wp2
          go_quiet (fail)
          go_wp2
          go_roundw
          case rel => exact ⟨j + 1 + 1, by omega, by go_num, congrArg (Value.int .i64) (by rw [HS.out]; simp), hrow.drewN _, below_drewN hb1 _⟩
          case measure => simp [intOf]; omega
    · have e : k = n := by omega
      subst e
      go_wp2
      go_ret
      refine ⟨ret_int ?_, hb1⟩
      rw [HN.out, ← HL.out, List.take_length, HF.out]
end Go.Proofs.Qxb6619603a

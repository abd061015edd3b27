/-
  WALKS: ZZIndicator, the bound on the length, the law.
-/
import Derived.Test.Qxb6619736aInd
namespace Go.Proofs.Qxb6619736a
open Go.RowKit

set_option maxRecDepth 100000 in
theorem zzind_any (ad : Option Addr) (n c i : Nat) (ds : List Nat) (w : World) (hd : Hid (ds.length = n)) (hn : n ≤ 1048576) (hnc : n ≤ c) (hi : i < 9223372036854775808) (sd : Small ds) (h : BAt w ad ds) :
    Calls Try.prog 6 #[.slice ad n c, .int .i64 (i : Int)] w fun e w' => Tells ds i e ∧ Below w.heap.size w w' := by
  go_enter Try.func6, Try.ntmps6
  go_wp2_with fail
  refine (ind_any ad n c i ds w hd hn hnc hi sd h).mono ?_
  rintro _ w' ⟨⟨r, hr, rfl⟩, hb⟩
  cases r with
  | none =>
    show _
    unfold twoOf
    go_wp2
    go_ret2
    exact ⟨⟨_, hr, rfl⟩, hb⟩
  | some t =>
    unfold twoOf
    go_wp2
    go_ret2
    exact ⟨⟨_, hr, rfl⟩, hb⟩

set_option maxRecDepth 100000 in
theorem bytes_any (ad : Option Addr) (n c : Nat) (k : Int) (w : World) (hm : n ≤ maxLen) :
    Calls Try.prog 4 #[.slice ad n c, .int .i64 k] w fun e w' => e = .returned (.bool (decide (n ≤ 1048576))) ∧ w' = w := by
  unfold maxLen at hm
  by_cases h : n ≤ 1048576
  · rw [decide_eq_true h]
    go_enter Try.func4, Try.ntmps4
    go_wp2
    go_ret
    exact ⟨rfl, rfl⟩
  · rw [decide_eq_false h]
    go_enter Try.func4, Try.ntmps4
    go_wp2
    go_ret
    exact ⟨rfl, rfl⟩

def u8s (ds : List Nat) : List Value := ds.map (fun d => Value.int .u8 ((d : Nat) : Int))
def zeros (n : Nat) : Array Value := (List.replicate n (Value.int .u8 0)).toArray
theorem make_bytes (n : Nat) (hn : n ≤ 1048576) (w : World) : (Instr.makeSlice 22 (.int .i64 (n : Int)) (.int .i64 (n : Int))).run Try.prog w = .ok (.slice (some ⟨w.heap.size, 0, none⟩) n n) (w.alloc (.cells (zeros n) 5)) := by
  obtain ⟨i0, hi, hz0, hz1, hz2⟩ := info_parts Try.info5
  have h := run_make (P := Try.prog) w 22 5 i0 (.int .u8 0) Try.underlying22 hi hz0 .i64 .i64 (n : Int) (n : Int) (by omega) (Int.le_refl _) (by rw [hz2]; omega) (by omega)
  have e : madeCells (Value.int .u8 0).cells (n * i0.size) = zeros n := by
    apply Array.toList_inj.1
    rw [hz1, Nat.mul_one]
    show (madeCells #[Value.int .u8 0] n).toList = _
    rw [toList_madeCells_one]
    simp [zeros]
  rw [Int.toNat_natCast, e] at h
  exact h
/-- The world behind 'zzc := make([]byte, len(data)); copy(zzc, data)'. -/
def copied (w : World) (ds : List Nat) : World := (w.alloc (.cells (zeros ds.length) 5)).setRow w.heap.size (u8s ds).toArray
theorem copied_bytes (w : World) (ds : List Nat) : BytesAt (copied w ds) w.heap.size 0 ds := by
  intro j hj
  rw [Nat.zero_add]
  unfold copied
  rw [cell_setRow_same _ _ _ _ _ _ _ (heap_alloc_new _ _)]
  simp [u8s, List.getD, hj]
theorem copied_below (w : World) (ds : List Nat) : Below w.heap.size w (copied w ds) := by
  unfold copied
  refine ((Below.refl _ _).alloc (Nat.le_refl _) (.cells (zeros ds.length) 5)).trans ⟨rfl, rfl, rfl, by simp [World.setRow], fun k hk => setRow_other _ _ k _ (by omega)⟩
theorem copy_bytes (w : World) (a : Addr) (cap n : Nat) (ds : List Nat) (hl : ds.length = n) (hs : ∀ j, j < ds.length → w.cell? (a.add j) = some (.int .u8 (ds.getD j 0 : Nat))) (ty : TypeId) :
    (Builtin.copy_ #[22, 22] ty #[.slice (some ⟨w.heap.size, 0, none⟩) n n, .slice (some a) n cap]).run Try.prog (w.alloc (.cells (zeros n) 5)) = .ok (.int .i64 n) (copied w ds) := by
  subst hl
  have hr := run_copy_row (P := Try.prog) (w.alloc (.cells (zeros ds.length) 5)) 22 22 ty 5 w.heap.size 0 ds.length ds.length a ds.length cap (zeros ds.length) 5 (u8s ds) Try.underlying22 (by kernel_rfl) (heap_alloc_new _ _)
    (by simp [u8s]) ?_ (by simp [u8s, zeros]) ?_
  · rw [hr]
    simp [goInt, copied, u8s, zeros]
  · intro j v hj
    have hjl : j < ds.length := by
      have := (List.getElem?_eq_some_iff.1 hj).1
      simpa [u8s] using this
    have hc := hs j hjl
    have hc' := (((Below.refl w.heap.size w).alloc (Nat.le_refl _) (.cells (zeros ds.length) 5)).cell (p := a.add j) (lt_of_cell hc)).trans hc
    rw [hc']
    simp [u8s, hjl] at hj
    simp [List.getD, hjl, ← hj]
  · intro v hv
    simp only [u8s, List.mem_map] at hv
    obtain ⟨s, _, rfl⟩ := hv
    rfl

/-- Two tellings agree. -/
theorem Tells.same {ds : List Nat} {i : Nat} {a b : Option Nat} (h : Reads ds i a) (h' : Reads ds i b) : b = a := h'.uniq _ h

set_option maxRecDepth 100000 in
set_option maxHeartbeats 2000000 in
theorem law_any (ad : Option Addr) (n c : Nat) (ds : List Nat) (k : Int) (w : World) (hd : Hid (ds.length = n)) (hnc : n ≤ c) (hm : n ≤ maxLen) (hk : k < 9223372036854775808) (sd : Small ds)
    (hs : (ad = none ∧ n = 0) ∨ ∃ x, ad = some x ∧ ∀ j, j < ds.length → w.cell? (x.add j) = some (.int .u8 (ds.getD j 0 : Nat))) :
    Calls Try.prog 3 #[.slice ad n c, .int .i64 k] w fun e w' => e = .returned (.bool true) ∧ Below w.heap.size w w' := by
  have HB : Hid (Below w.heap.size w w) := Below.refl _ _
  have HS := veil hs
  clear hs
  go_enter Try.func3, Try.ntmps3
  go_wp2_with fail
  refine (bytes_any ad n c k w hm).mono ?_
  rintro _ w' ⟨rfl, hw'⟩
  have hw'' := hw'.symm
  subst hw''
  clear hw'
  unfold maxLen at hm
  by_cases hnn0 : ¬ n ≤ 1048576
  · rw [decide_eq_false hnn0]
    go_wp2
    go_ret
    exact ⟨rfl, HB.out⟩
  have hn : n ≤ 1048576 := by omega
  clear hnn0
  rw [decide_eq_true hn]
  by_cases hk0 : k < 0
  · go_wp2
    go_ret
    exact ⟨rfl, HB.out⟩
  obtain ⟨i, rfl⟩ := Int.eq_ofNat_of_zero_le (show 0 ≤ k by omega)
  have hi : i < 9223372036854775808 := by omega
  clear hm hk
  have hmk := make_bytes n hn
  have hnn := @run_neq_slice_nil_any Try.prog
  go_upto_if 20 with fail
  go_cut [0] (fun v0 wc => ∃ ad' cap', v0 = .slice ad' n cap' ∧ BAt wc ad' ds ∧ n ≤ cap' ∧ Below w.heap.size w wc)
  case first =>
    rcases HS.out with ⟨rfl, h0⟩ | ⟨x, rfl, hx⟩
    · have HE : Hid (BAt w none ds) := .inl (hd.out.trans h0)
      clear h0
      go_wp2
      go_meet
      case rel => exact ⟨none, c, rfl, HE.out, hnc, HB.out⟩
    · have hcp := copy_bytes w x c n ds hd.out hx
      clear hx
      go_wp2
      go_meet
      case rel => exact ⟨_, _, rfl, .inr ⟨_, _, rfl, copied_bytes w ds⟩, Nat.le_refl _, copied_below w ds⟩
  clear HS hnc HB hnn hmk
  obtain ⟨ad', cap', rfl, hs, hcap, hb0⟩ := hcut
  go_wp2_with fail
  refine (model_any ad' n cap' i ds wc hd hn hi sd hs).mono ?_
  rintro _ w1 ⟨⟨r, hr, rfl⟩, hw1⟩
  have hw1' := hw1.symm
  subst hw1'
  clear hw1
  cases r with
  | none =>
    unfold twoOf
    go_wp2_with fail
    refine (zzind_any ad' n cap' i ds wc hd hn hcap hi sd hs).mono ?_
    rintro _ w2 ⟨⟨r', hr', rfl⟩, hb2⟩
    have e := Tells.same hr hr'
    subst e
    have hbF := hb0.trans (hb2.mono hb0.size)
    unfold twoOf
    clear hb0 hb2 hs hr hr'
    go_wp2
    go_ret
    exact ⟨rfl, hbF⟩
  | some t =>
    unfold twoOf
    go_wp2_with fail
    refine (zzind_any ad' n cap' i ds wc hd hn hcap hi sd hs).mono ?_
    rintro _ w2 ⟨⟨r', hr', rfl⟩, hb2⟩
    have e := Tells.same hr hr'
    subst e
    have hbF := hb0.trans (hb2.mono hb0.size)
    unfold twoOf
    clear hb0 hb2 hs hr hr'
    go_wp2
    go_ret
    exact ⟨rfl, hbF⟩
end Go.Proofs.Qxb6619736a

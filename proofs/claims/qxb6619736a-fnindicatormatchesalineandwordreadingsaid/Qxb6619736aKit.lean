/-
  BYTES IN MEMORY; WALKS: bytes.Equal, bytes.HasPrefix, breakLength, zzBreakAt, zzLineEnd.
-/
import Derived.Test.Qxb6619736aRows
import Derived.WalkKit
import Derived.WalkSpells
import Derived.WalkLawsBesides
import Derived.Laws.BytesArg
import Derived.Lib.SlBytesConst
namespace Go.Proofs.Qxb6619736a
open Go.RowKit

theorem veil {S : Prop} (h : S) : Hid S := h
theorem ret_bool {a b : Bool} (h : a = b) : Ending.returned (.bool a) = .returned (.bool b) := by rw [h]
theorem ret_int {k : IntKind} {a b : Int} (h : a = b) : Ending.returned (.int k a) = .returned (.int k b) := by rw [h]
theorem lt_of_cell {w : World} {a : Addr} {v : Value} (h : w.cell? a = some v) : a.block < w.heap.size := by
  unfold World.cell? at h
  split at h
  · rename_i hh
    exact (Array.getElem?_eq_some_iff.1 hh).1
  · cases h

/-- From off on block b holds the bytes ds. -/
def BytesAt (w : World) (b off : Nat) (ds : List Nat) : Prop := ∀ j, j < ds.length → w.cell? ⟨b, off + j, none⟩ = some (.int .u8 (ds.getD j 0 : Nat))
def Small (ds : List Nat) : Prop := ∀ d ∈ ds, d < 256
theorem BytesAt.below {w w' : World} {b off : Nat} {ds : List Nat} (h : BytesAt w b off ds) (hb : Below w.heap.size w w') : BytesAt w' b off ds := by
  intro j hj
  have hc := h j hj
  exact (hb.cell (p := ⟨b, off + j, none⟩) (lt_of_cell hc)).trans hc
theorem BytesAt.drop {w : World} {b off : Nat} {ds : List Nat} (h : BytesAt w b off ds) (i : Nat) : BytesAt w b (off + i) (ds.drop i) := by
  intro j hj
  simp at hj
  have := h (i + j) (by omega)
  rw [show off + i + j = off + (i + j) by omega, this]
  simp [List.getD]
theorem BytesAt.take {w : World} {b off : Nat} {ds : List Nat} (h : BytesAt w b off ds) (m : Nat) : BytesAt w b off (ds.take m) := by
  intro j hj
  simp at hj
  rw [h j (by omega)]
  simp [List.getD, show j < m by omega]
theorem small_take {ds : List Nat} (h : Small ds) (m : Nat) : Small (ds.take m) := fun d hd => h d (List.mem_of_mem_take hd)
theorem small_drop {ds : List Nat} (h : Small ds) (m : Nat) : Small (ds.drop m) := fun d hd => h d (List.mem_of_mem_drop hd)
theorem small_at {ds : List Nat} (h : Small ds) (k : Nat) : ds.getD k 0 < 256 := by
  by_cases hk : k < ds.length
  · exact h _ (by simp [List.getD, hk])
  · simp [List.getD, List.getElem?_eq_none (show ds.length ≤ k by omega)]

/-! ### []byte to string -/
def ints (ds : List Nat) : List Int := ds.map Int.ofNat
theorem ints_at (ds : List Nat) (i : Nat) : (ints ds).getD i 0 = ((ds.getD i 0 : Nat) : Int) := by
  simp only [ints, List.getD, List.getElem?_map]
  cases ds[i]? <;> rfl
theorem conv_bytes {w : World} {b off n c : Nat} {ds : List Nat} (hl : ds.length = n) (h : BytesAt w b off ds) : (convert 22 9 (.slice (some ⟨b, off, none⟩) n c)).run Try.prog w = .ok (.string (strOfNums (ints ds))) w :=
  run_convert_bytes_arg w 22 5 Try.underlying22 Try.underlying5 b off n c (ints ds) (by simp [ints, hl]) (fun i hi => by rw [ints_at]; exact h i (by omega)) 9 Try.underlying9
theorem strs_eq : ∀ {xs ys : List Nat}, Small xs → Small ys → ((strOfNums (ints xs)).toList == (strOfNums (ints ys)).toList) = decide (xs = ys) := by
  intro xs ys hx hy
  have e : ∀ zs : List Nat, (strOfNums (ints zs)).toList = zs.map UInt8.ofNat := by
    intro zs
    rw [ByteArray.toList_eq, strOfNums_data]
    simp [ints]
  rw [e, e, Bool.eq_iff_iff]
  simp only [beq_iff_eq, decide_eq_true_eq]
  constructor
  · intro h
    have h2 := congrArg (List.map UInt8.toNat) h
    rw [List.map_map, List.map_map] at h2
    have hid : ∀ zs : List Nat, Small zs → zs.map (UInt8.toNat ∘ UInt8.ofNat) = zs := by
      intro zs hz
      rw [List.map_congr_left (g := id) (fun d hd => by simp [Nat.mod_eq_of_lt (hz d hd)])]
      simp
    rwa [hid xs hx, hid ys hy] at h2
  · rintro rfl
    rfl

theorem equal_any (b off b' off' n c c' : Nat) (xs ys : List Nat) (w : World) (hx : xs.length = n) (hy : ys.length = n) (sx : Small xs) (sy : Small ys) (h1 : BytesAt w b off xs) (h2 : BytesAt w b' off' ys) :
    Calls Try.prog 12 #[.slice (some ⟨b, off, none⟩) n c, .slice (some ⟨b', off', none⟩) n c'] w fun e w' => e = .returned (.bool (decide (xs = ys))) ∧ w' = w := by
  have k1 := conv_bytes (c := c) hx h1
  have k2 := conv_bytes (c := c') hy h2
  have HE := veil (strs_eq sx sy)
  clear h1 h2 hx hy
  generalize strOfNums (ints xs) = s1 at *
  generalize strOfNums (ints ys) = s2 at *
  go_enter Try.func12, Try.ntmps12
  go_wp2
  go_ret
  exact ⟨ret_bool HE.out, rfl⟩

theorem prefix_any (b off b' n c m : Nat) (ds ps : List Nat) (w : World) (hd : Hid (ds.length = n)) (hp : Hid (ps.length = m)) (hnc : n ≤ c) (sd : Small ds) (sp : Small ps) (h1 : BytesAt w b off ds) (h2 : BytesAt w b' 0 ps) :
    Calls Try.prog 11 #[.slice (some ⟨b, off, none⟩) n c, .slice (some ⟨b', 0, none⟩) m m] w fun e w' => e = .returned (.bool (decide (m ≤ n ∧ ds.take m = ps))) ∧ w' = w := by
  by_cases hm : m ≤ n
  · have hmc : (m : Int) ≤ (c : Int) := by omega
    go_enter Try.func11, Try.ntmps11
    go_wp2_with fail
    refine (equal_any b off b' 0 m c m (ds.take m) ps w (by have := hd.out; simp; omega) hp.out (small_take sd m) sp (h1.take m) h2).mono ?_
    rintro e w' ⟨rfl, rfl⟩
    generalize hx : decide (ds.take m = ps) = x
    have HX := veil hx
    clear hx
    go_wp2
    go_ret
    exact ⟨ret_bool (by rw [← HX.out]; simp [hm]), rfl⟩
  · go_enter Try.func11, Try.ntmps11
    go_wp2
    go_ret
    exact ⟨ret_bool (by simp [hm]), rfl⟩

/-! ### how long a line break is -/
/-- The length of the line break at the head of n bytes that open with c, d1, d2. -/
def brkOf (n c d1 d2 : Nat) : Nat :=
  if n = 0 then 0 else if c = 13 then (if 2 ≤ n ∧ d1 = 10 then 2 else 1) else if c = 10 then 1 else if c = 194 ∧ 2 ≤ n ∧ d1 = 133 then 2
  else if c = 226 ∧ 3 ≤ n ∧ d1 = 128 ∧ (d2 = 168 ∨ d2 = 169) then 3 else 0
def brkAt (ds : List Nat) (p : Nat) : Nat := brkOf (ds.length - p) (ds.getD p 0) (ds.getD (p + 1) 0) (ds.getD (p + 2) 0)
theorem brkOf_le (n c d1 d2 : Nat) : brkOf n c d1 d2 ≤ n ∧ brkOf n c d1 d2 ≤ 3 := by
  unfold brkOf
  repeat' split
  all_goals omega
theorem brkAt_le (ds : List Nat) (p : Nat) : brkAt ds p ≤ ds.length - p ∧ brkAt ds p ≤ 3 := brkOf_le _ _ _ _
theorem brkAt_pos {ds : List Nat} {p : Nat} (h : brkAt ds p ≠ 0) : p < ds.length ∧ (ds.getD p 0 = 13 ∨ ds.getD p 0 = 10 ∨ ds.getD p 0 = 194 ∨ ds.getD p 0 = 226) := by
  unfold brkAt brkOf at h
  revert h
  repeat' split
  all_goals (intro h; omega)
theorem take2 {ds : List Nat} (h : 2 ≤ ds.length) (x y : Nat) : ds.take 2 = [x, y] ↔ ds.getD 0 0 = x ∧ ds.getD 1 0 = y := by
  match ds, h with
  | a :: b :: r, _ => simp [List.getD]
theorem take3 {ds : List Nat} (h : 3 ≤ ds.length) (x y z : Nat) : ds.take 3 = [x, y, z] ↔ ds.getD 0 0 = x ∧ ds.getD 1 0 = y ∧ ds.getD 2 0 = z := by
  match ds, h with
  | a :: b :: c :: r, _ => simp [List.getD]
theorem pre2 {ds : List Nat} {n : Nat} (hl : ds.length = n) (x y : Nat) : decide (2 ≤ n ∧ ds.take 2 = [x, y]) = decide (2 ≤ n ∧ ds.getD 0 0 = x ∧ ds.getD 1 0 = y) := by
  by_cases h : 2 ≤ n
  · have ht := take2 (ds := ds) (by omega) x y
    simp only [h, true_and, ht]
  · simp [h]
theorem pre3 {ds : List Nat} {n : Nat} (hl : ds.length = n) (x y z : Nat) : decide (3 ≤ n ∧ ds.take 3 = [x, y, z]) = decide (3 ≤ n ∧ ds.getD 0 0 = x ∧ ds.getD 1 0 = y ∧ ds.getD 2 0 = z) := by
  by_cases h : 3 ≤ n
  · have ht := take3 (ds := ds) (by omega) x y z
    simp only [h, true_and, ht]
  · simp [h]
theorem lit2 (w : World) (x y : Nat) : BytesAt (w.alloc (.cells #[.int .u8 (x : Int), .int .u8 (y : Int)] 5 (2, 3))) w.heap.size 0 [x, y] := by
  intro j hj
  rw [Nat.zero_add, cell_of_row _ _ _ _ _ _ (heap_alloc_new _ _)]
  match j, hj with
  | 0, _ => rfl
  | 1, _ => rfl
theorem lit3 (w : World) (x y z : Nat) : BytesAt (w.alloc (.cells #[.int .u8 (x : Int), .int .u8 (y : Int), .int .u8 (z : Int)] 5 (3, 4))) w.heap.size 0 [x, y, z] := by
  intro j hj
  rw [Nat.zero_add, cell_of_row _ _ _ _ _ _ (heap_alloc_new _ _)]
  match j, hj with
  | 0, _ => rfl
  | 1, _ => rfl
  | 2, _ => rfl

set_option maxRecDepth 100000 in
set_option maxHeartbeats 1000000 in
theorem break_any (b off n c : Nat) (ds : List Nat) (w : World) (hd : Hid (ds.length = n)) (hn : 1 ≤ n) (hnc : n ≤ c) (hn2 : n ≤ 1048576) (sd : Small ds) (h : BytesAt w b off ds) :
    Calls Try.prog 10 #[.slice (some ⟨b, off, none⟩) n c] w fun e w' => e = .returned (.int .i64 ((brkOf n (ds.getD 0 0) (ds.getD 1 0) (ds.getD 2 0) : Nat) : Int)) ∧ Below w.heap.size w w' := by
  have kc := fun (w : World) (C : Array Value) (n c : Nat) => Lib.run_convert_bytes_const (P := Try.prog) w 22 5 C n c Try.underlying22 Try.underlying5
  have hsm : ∀ x y : Nat, x < 256 → y < 256 → Small [x, y] := fun x y hx hy d hd => by simp at hd; omega
  have hsm3 : ∀ x y z : Nat, x < 256 → y < 256 → z < 256 → Small [x, y, z] := fun x y z hx hy hz d hd => by simp at hd; omega
  have e0 := small_at sd 0
  have e1 := small_at sd 1
  have e2 := small_at sd 2
  have HP1 := veil (pre2 hd.out 13 10)
  have HP2 := veil (pre2 hd.out 194 133)
  have HP3 := veil (pre3 hd.out 226 128 168)
  have HP4 := veil (pre3 hd.out 226 128 169)
  have hc0 : w.cell? ⟨b, off, none⟩ = some (.int .u8 (ds.getD 0 0 : Nat)) := h 0 (by rw [hd.out]; omega)
  generalize ds.getD 0 0 = d0 at *
  generalize ds.getD 1 0 = d1 at *
  generalize ds.getD 2 0 = d2 at *
  go_enter Try.func10, Try.ntmps10
  go_wp2_with fail
  have hb1 : Below w.heap.size w (w.alloc (.cells #[.int .u8 13, .int .u8 10] 5 (2, 3))) := (Below.refl _ _).alloc (Nat.le_refl _) _
  refine (prefix_any b off w.heap.size n c 2 ds [13, 10] _ hd (veil rfl) hnc sd (hsm _ _ (by omega) (by omega)) (h.below hb1) (lit2 w 13 10)).mono ?_
  rintro e w1 ⟨rfl, rfl⟩
  rw [HP1.out]
  have h1 := h.below hb1
  have hc1 := (hb1.cell (p := ⟨b, off, none⟩) (lt_of_cell hc0)).trans hc0
  clear hc0 HP1
  generalize w.alloc (.cells #[.int .u8 13, .int .u8 10] 5 (2, 3)) = w1 at *
  by_cases q1 : 2 ≤ n ∧ d0 = 13 ∧ d1 = 10
  · have HB : Hid (brkOf n d0 d1 d2 = 2) := by
      show _ = _
      unfold brkOf
      rw [if_neg (by omega), if_pos q1.2.1, if_pos ⟨q1.1, q1.2.2⟩]
    rw [decide_eq_true q1]
    clear q1
    go_wp2
    go_ret
    exact ⟨ret_int (by rw [HB.out]; rfl), hb1⟩
  rw [decide_eq_false q1]
  by_cases q2 : d0 = 13
  · have HB : Hid (brkOf n d0 d1 d2 = 1) := by
      show _ = _
      unfold brkOf
      rw [if_neg (by omega), if_pos q2, if_neg (fun h => q1 ⟨h.1, q2, h.2⟩)]
    have q2' : ((d0 : Nat) : Int) = 13 := by omega
    rw [q2'] at hc1
    clear q1 q2 q2'
    go_wp2
    go_ret
    exact ⟨ret_int (by rw [HB.out]; rfl), hb1⟩
  by_cases q3 : d0 = 10
  · have HB : Hid (brkOf n d0 d1 d2 = 1) := by
      show _ = _
      unfold brkOf
      rw [if_neg (by omega), if_neg q2, if_pos q3]
    have q2' : ((d0 : Nat) : Int) = 10 := by omega
    rw [q2'] at hc1
    clear q1 q2 q2' q3
    go_wp2
    go_ret
    exact ⟨ret_int (by rw [HB.out]; rfl), hb1⟩
  have z1 : (((d0 : Nat) : Int) == 13) = false := beq_eq_false_iff_ne.2 (by omega)
  have z2 : (((d0 : Nat) : Int) == 10) = false := beq_eq_false_iff_ne.2 (by omega)
  go_wp2_with fail
  have hb2 : Below w1.heap.size w1 (w1.alloc (.cells #[.int .u8 194, .int .u8 133] 5 (2, 3))) := (Below.refl _ _).alloc (Nat.le_refl _) _
  refine (prefix_any b off w1.heap.size n c 2 ds [194, 133] _ hd (veil rfl) hnc sd (hsm _ _ (by omega) (by omega)) (h1.below hb2) (lit2 w1 194 133)).mono ?_
  rintro e w2 ⟨rfl, rfl⟩
  rw [HP2.out]
  have h2 := h1.below hb2
  have hbw2 := hb1.trans (hb2.mono hb1.size)
  clear HP2 hb2 hb1 h1 hc1
  generalize w1.alloc (.cells #[.int .u8 194, .int .u8 133] 5 (2, 3)) = w2 at *
  by_cases q4 : 2 ≤ n ∧ d0 = 194 ∧ d1 = 133
  · have HB : Hid (brkOf n d0 d1 d2 = 2) := by
      show _ = _
      unfold brkOf
      rw [if_neg (by omega), if_neg q2, if_neg q3, if_pos ⟨q4.2.1, q4.1, q4.2.2⟩]
    rw [decide_eq_true q4]
    clear q4 
    go_wp2
    go_ret
    exact ⟨ret_int (by rw [HB.out]; rfl), hbw2⟩
  rw [decide_eq_false q4]
  go_wp2_with fail
  have hb3 : Below w2.heap.size w2 (w2.alloc (.cells #[.int .u8 226, .int .u8 128, .int .u8 168] 5 (3, 4))) := (Below.refl _ _).alloc (Nat.le_refl _) _
  refine (prefix_any b off w2.heap.size n c 3 ds [226, 128, 168] _ hd (veil rfl) hnc sd (hsm3 _ _ _ (by omega) (by omega) (by omega)) (h2.below hb3) (lit3 w2 226 128 168)).mono ?_
  rintro e w3 ⟨rfl, rfl⟩
  rw [HP3.out]
  have h3 := h2.below hb3
  have hbw3 := hbw2.trans (hb3.mono hbw2.size)
  clear HP3 hb3 h2 hbw2
  generalize w2.alloc (.cells #[.int .u8 226, .int .u8 128, .int .u8 168] 5 (3, 4)) = w3 at *
  by_cases q5 : 3 ≤ n ∧ d0 = 226 ∧ d1 = 128 ∧ d2 = 168
  · have HB : Hid (brkOf n d0 d1 d2 = 3) := by
      show _ = _
      unfold brkOf
      rw [if_neg (by omega), if_neg q2, if_neg q3, if_neg (by omega), if_pos ⟨q5.2.1, q5.1, q5.2.2.1, .inl q5.2.2.2⟩]
    rw [decide_eq_true q5]
    clear q5 
    go_wp2
    go_ret
    exact ⟨ret_int (by rw [HB.out]; rfl), hbw3⟩
  rw [decide_eq_false q5]
  go_wp2_with fail
  have hb4 : Below w3.heap.size w3 (w3.alloc (.cells #[.int .u8 226, .int .u8 128, .int .u8 169] 5 (3, 4))) := (Below.refl _ _).alloc (Nat.le_refl _) _
  refine (prefix_any b off w3.heap.size n c 3 ds [226, 128, 169] _ hd (veil rfl) hnc sd (hsm3 _ _ _ (by omega) (by omega) (by omega)) (h3.below hb4) (lit3 w3 226 128 169)).mono ?_
  rintro e w4 ⟨rfl, rfl⟩
  rw [HP4.out]
  have hbw4 := hbw3.trans (hb4.mono hbw3.size)
  clear HP4 hb4 h3 hbw3
  generalize w3.alloc (.cells #[.int .u8 226, .int .u8 128, .int .u8 169] 5 (3, 4)) = w4 at *
  by_cases q6 : 3 ≤ n ∧ d0 = 226 ∧ d1 = 128 ∧ d2 = 169
  · have HB : Hid (brkOf n d0 d1 d2 = 3) := by
      show _ = _
      unfold brkOf
      rw [if_neg (by omega), if_neg q2, if_neg q3, if_neg (by omega), if_pos ⟨q6.2.1, q6.1, q6.2.2.1, .inr q6.2.2.2⟩]
    rw [decide_eq_true q6]
    clear q6 
    go_wp2
    go_ret
    exact ⟨ret_int (by rw [HB.out]; rfl), hbw4⟩
  · have HB : Hid (brkOf n d0 d1 d2 = 0) := by
      show _ = _
      unfold brkOf
      rw [if_neg (by omega), if_neg q2, if_neg q3, if_neg (by omega), if_neg (by omega)]
    rw [decide_eq_false q6]
    clear q6 
    go_wp2
    go_ret
    exact ⟨ret_int (by rw [HB.out]; rfl), hbw4⟩
end Go.Proofs.Qxb6619736a

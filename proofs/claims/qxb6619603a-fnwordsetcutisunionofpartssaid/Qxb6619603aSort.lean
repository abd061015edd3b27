/-
  WALK: sortedCopy.
-/
import Derived.Test.Qxb6619603aHas
import Derived.Test.Qxb6619603aMerge
import Derived.Deep.QuietTactic
import Derived.BigQuiet
import Derived.Deep.DeepCutAuto
namespace Go.Proofs.Qxb6619603a
open Go.RowKit

/-- Block b of w is a row of the strings A. -/
def RowS (w : World) (b : Nat) (A : List ByteArray) : Prop := w.heap[b]? = some (.cells (A.map Value.string).toArray 9 (0, 0))
theorem RowS.lt {w : World} {b : Nat} {A : List ByteArray} (h : RowS w b A) : b < w.heap.size := (Array.getElem?_eq_some_iff.1 h).1
theorem RowS.cell {w : World} {b : Nat} {A : List ByteArray} (h : RowS w b A) {k : Nat} (hk : k < A.length) : w.cell? ⟨b, k, none⟩ = some (.string (A.getD k ByteArray.empty)) := by
  rw [cell_of_row w b k _ _ _ h]; simp [List.getD, hk]
theorem RowS.free {w : World} {b : Nat} {A : List ByteArray} (h : RowS w b A) (k : Nat) : w.frozen? ⟨b, k, none⟩ = false := frozen_of_row w b k _ _ h
theorem RowS.set {w : World} {b : Nat} {A : List ByteArray} (h : RowS w b A) (k : Nat) (s : ByteArray) : RowS (w.setCell ⟨b, k, none⟩ (.string s)) b (A.set k s) := by
  unfold RowS at *
  rw [heap_setCell_same w b k _ _ _ h]
  simp
theorem RowS.other {w : World} {b b' : Nat} {A : List ByteArray} (h : RowS w b A) (hne : b ≠ b') (k : Nat) (v : Value) : RowS (w.setCell ⟨b', k, none⟩ v) b A := by
  unfold RowS at *
  rw [Below.heap_setCell _ _ _ _ hne]; exact h
theorem RowS.alloc {w : World} {b : Nat} {A : List ByteArray} (h : RowS w b A) (o : Obj) : RowS (w.alloc o) b A := by
  have := h.lt
  unfold RowS at *
  rw [Below.heap_alloc _ _ _ this]; exact h
theorem RowS.below {w w' : World} {b : Nat} {A : List ByteArray} (h : RowS w b A) (hb : Below w.heap.size w w') : RowS w' b A := (hb.block b h.lt).trans h
theorem RowS.drewN {w : World} {b : Nat} {A : List ByteArray} (h : RowS w b A) (n : Nat) : RowS (w.drewN n) b A := h
theorem RowS.strs {w : World} {b : Nat} {A : List ByteArray} (h : RowS w b A) : StrsAt w (some ⟨b, 0, none⟩) A :=
  fun j hj => ⟨b, 0, rfl, by rw [Nat.zero_add]; exact h.cell hj⟩

/-- The cells of a new '[]string' of n elements. -/
def blank (n : Nat) : Array Value := ((List.replicate n ByteArray.empty).map Value.string).toArray
theorem Try.info9 : (Try.prog.info? 9).map (fun i => (i.zero, i.size, i.bytes)) = some (some (.string ByteArray.empty), 1, 16) := by kernel_rfl
theorem make_strs (n : Nat) (hn : n ≤ 8388608) (w : World) : (Instr.makeSlice 22 (.int .i64 (n : Int)) (.int .i64 (n : Int))).run Try.prog w = .ok (.slice (some ⟨w.heap.size, 0, none⟩) n n) (w.alloc (.cells (blank n) 9)) := by
  obtain ⟨i0, hi, hz0, hz1, hz2⟩ := info_parts Try.info9
  have h := run_make (P := Try.prog) w 22 9 i0 (.string ByteArray.empty) Try.underlying22 hi hz0 .i64 .i64 (n : Int) (n : Int) (by omega) (Int.le_refl _) (by rw [hz2]; omega) (by omega)
  have e : madeCells (Value.string ByteArray.empty).cells (n * i0.size) = blank n := by
    apply Array.toList_inj.1
    rw [hz1, Nat.mul_one]
    show (madeCells #[Value.string ByteArray.empty] n).toList = _
    rw [toList_madeCells_one]
    simp [blank]
  rw [Int.toNat_natCast, e] at h
  exact h
theorem blank_row (n : Nat) (w : World) : RowS (w.alloc (.cells (blank n) 9)) w.heap.size (List.replicate n ByteArray.empty) := by
  unfold RowS
  rw [heap_alloc_new]; rfl

set_option maxRecDepth 100000 in
set_option maxHeartbeats 1000000 in
theorem sort_any (ad : Option Addr) (cap : Nat) (ss : List ByteArray) (w : World) (hn : ss.length ≤ 4194304) (hs : StrsAt w ad ss) :
    Calls Try.prog 11 #[.slice ad ss.length cap] w fun e w' => ∃ b ts, e = .returned (.slice (some ⟨b, 0, none⟩) ss.length ss.length) ∧ RowS w' b ts ∧ ts.Perm ss ∧ Sorted ts ∧ Below w.heap.size w w' := by
  obtain ⟨n, hln⟩ : ∃ n, n = ss.length := ⟨_, rfl⟩
  rw [← hln] at hn ⊢
  have HL : Hid (n = ss.length) := hln
  clear hln
  have hmk := make_strs n (by omega)
  go_enter Try.func11, Try.ntmps11
  go_wp2
  go_loopw [5] (fun i wr => ∃ k A, k ≤ n ∧ i = .int .i64 k ∧ A.length = n ∧ A.take k = ss.take k ∧ RowS wr w.heap.size A ∧ Below w.heap.size w wr) (fun i _ => n - (intOf i).toNat)
  case atStart => exact ⟨0, _, Nat.zero_le _, rfl, by simp, by simp, blank_row n w, (Below.refl _ _).alloc (Nat.le_refl _) _⟩
  case round =>
    obtain ⟨k, A, hk, rfl, hA, hAk, hrow, hnx⟩ := hrel
    have HA : Hid (A.length = n) := hA
    have HAk : Hid (A.take k = ss.take k) := hAk
    by_cases hlt : k < n
    · obtain ⟨b, off, rfl, hc⟩ := hs k (by rw [← HL.out]; exact hlt)
      have hcx := (hnx.cell (p := ⟨b, off + k, none⟩) (lt_of_cell hc)).trans hc
      have hfz := hrow.free k
      have hold := hrow.cell (k := k) (by omega)
      clear hc hA hAk
      obtain ⟨s, hs1⟩ : ∃ s, s = ss.getD k ByteArray.empty := ⟨_, rfl⟩
      rw [← hs1] at hcx
      have HS : Hid (s = ss.getD k ByteArray.empty) := hs1
      clear hs1
      go_wp2
      go_roundw
      case rel =>
        refine ⟨k + 1, A.set k s, by omega, by go_num, by rw [List.length_set]; exact HA.out, ?_, hrow.set k s, hnx.setCell (Nat.le_refl _) _⟩
        rw [take_set_snoc (by rw [HA.out]; exact hlt), HAk.out, take_snoc' (by rw [← HL.out]; exact hlt), HS.out]
      case measure => simp [intOf]; omega
    · have e : k = n := by omega
      subst e
      have hA' : A = ss := by
        rw [← List.take_length (l := A), hA, hAk, HL.out, List.take_length]
      clear hAk HAk HA
      subst hA'
      have hsz := hrow.lt
      have hBB := blank_row k wr
      have hAA := hrow.alloc (.cells (blank k) 9)
      have hNN := hnx.alloc hnx.size (.cells (blank k) 9)
      clear hA hrow hnx
      go_wp2
      go_loopw [4, 6, 7] (fun a b wd wr => ∃ ba bb W T Bl, a = .slice (some ⟨ba, 0, none⟩) k k ∧ b = .slice (some ⟨bb, 0, none⟩) k k ∧ wd = .int .i64 (W : Nat) ∧ 1 ≤ W ∧ W ≤ 8388608 ∧ ba ≠ bb ∧
          w.heap.size ≤ ba ∧ w.heap.size ≤ bb ∧ RowS wr ba T ∧ RowS wr bb Bl ∧ T.length = k ∧ Bl.length = k ∧ T.Perm A ∧ Blocks W T ∧ Below w.heap.size w wr) (fun _ _ wd _ => k - (intOf wd).toNat)
      case atStart => exact ⟨w.heap.size, wr.heap.size, 1, A, _, rfl, rfl, rfl, Nat.le_refl _, by omega, by omega, Nat.le_refl _, by omega, hAA, hBB, HL.out.symm, by simp, List.Perm.refl _, blocks_one A, hNN⟩
      case round =>
        clear hAA hBB hNN hsz
        obtain ⟨ba, bb, W, T, Bl, rfl, rfl, rfl, hW1, hW2, hne, hba, hbb, hT, hB, hTl, hBl, hperm, hblk, hnx⟩ := hrel
        have HTl : Hid (T.length = k) := hTl
        have HBl : Hid (Bl.length = k) := hBl
        clear hTl hBl
        by_cases hlt : W < k
        · go_wp2
          go_loopw [8] (fun lo wx => ∃ m L Bm, lo = .int .i64 (L : Nat) ∧ L = 2 * W * m ∧ L ≤ 16777216 ∧ RowS wx ba T ∧ RowS wx bb Bm ∧ Bm.length = k ∧ Bm.take L = passTo W T m ∧ Below w.heap.size w wx) (fun lo _ => k - (intOf lo).toNat)
          case atStart => exact ⟨0, 0, Bl, rfl, rfl, Nat.zero_le _, hT, hB, HBl.out, by simp [passTo], hnx⟩
          case round =>
            clear hT hB hnx
            obtain ⟨m, L, Bm, rfl, hL, hL2, hT, hB, hBl, htk, hnx⟩ := hrel
            have HLm : Hid (L = 2 * W * m) := hL
            have HBm : Hid (Bm.length = k) := hBl
            have HTk : Hid (Bm.take L = passTo W T m) := htk
            clear hL hBl htk
            by_cases hlo : L < k
            · obtain ⟨mid, hmid⟩ : ∃ mid, mid = min (L + W) k := ⟨_, rfl⟩
              obtain ⟨hi, hhi⟩ : ∃ hi, hi = min (L + 2 * W) k := ⟨_, rfl⟩
              have hm1 : mid ≤ L + W := by omega
              have hm2 : mid ≤ k := by omega
              have hm3 : L + W ≤ mid ∨ k ≤ mid := by omega
              have hm4 : hi ≤ L + 2 * W := by omega
              have hm5 : hi ≤ k := by omega
              have hm6 : L + 2 * W ≤ hi ∨ k ≤ hi := by omega
              have hst : MInv W T m mid hi L L mid Bm := by
                have := minv_start (W := W) (A := T) (m := m) (B := Bm) (by rw [← HLm.out, HTl.out]; exact hlo) (by rw [HBm.out, HTl.out]) (by rw [← HLm.out]; exact HTk.out)
                rw [HTl.out, ← HLm.out, ← hmid, ← hhi] at this
                exact this
              clear hmid hhi
              go_upto_if 49 with fail
              go_cut [9] (fun v9 wc => v9 = .int .i64 (mid : Nat) ∧ wc = wr)
              case first =>
                by_cases hc : k < L + W
                · go_wp2
                  go_meet
                  case rel => exact ⟨congrArg (Value.int .i64) (by omega), rfl⟩
                · go_wp2
                  go_meet
                  case rel => exact ⟨congrArg (Value.int .i64) (by omega), rfl⟩
              obtain ⟨rfl, rfl⟩ := hcut
              go_upto_if 57 with fail
              go_cut [10] (fun v10 wc' => v10 = .int .i64 (hi : Nat) ∧ wc' = wc)
              case first =>
                by_cases hc : k < L + 2 * W
                · go_wp2
                  go_meet
                  case rel => exact ⟨congrArg (Value.int .i64) (by omega), rfl⟩
                · go_wp2
                  go_meet
                  case rel => exact ⟨congrArg (Value.int .i64) (by omega), rfl⟩
              obtain ⟨rfl, rfl⟩ := hcut
              go_wp2
              go_loopw [11, 12, 13] (fun i j kk wy => ∃ x y q Bq, i = .int .i64 (x : Nat) ∧ j = .int .i64 (y : Nat) ∧ kk = .int .i64 (q : Nat) ∧ q ≤ hi ∧ MInv W T m mid hi q x y Bq ∧ RowS wy ba T ∧ RowS wy bb Bq ∧ Below w.heap.size w wy) (fun _ _ kk _ => hi - (intOf kk).toNat)
              case atStart => exact ⟨L, mid, L, Bm, rfl, rfl, rfl, by omega, hst, hT, hB, hnx⟩
              case round =>
                clear hT hB hnx hst
                obtain ⟨x, y, q, Bq, rfl, rfl, rfl, hq, hinv, hT, hB, hnx⟩ := hrel
                obtain ⟨hx1, hy1, hmh, hhk, hBq⟩ := hinv.bounds
                by_cases hlq : q < hi
                · have hfz := hB.free q
                  have hold := hB.cell (k := q) (by omega)
                  have hTk := HTl.out
                  by_cases hxm : x < mid
                  · have hcx := hT.cell (k := x) (by omega)
                    obtain ⟨sx, hsx⟩ : ∃ s, s = T.getD x ByteArray.empty := ⟨_, rfl⟩
                    rw [← hsx] at hcx
                    by_cases hyh : hi ≤ y
                    · have hR := minv_left hinv hlq hxm (.inl hyh)
                      rw [← hsx] at hR
                      clear hsx hTk hBq hinv
                      go_wp2
                      go_quiet (fail)
                      go_wp2
                      go_roundw
                      case rel => exact ⟨x + 1, y, q + 1, Bq.set q sx, by go_num, rfl, by go_num, by omega, hR, (hT.drewN _).other hne _ _, (hB.drewN _).set _ _, (below_drewN hnx _).setCell hbb _⟩
                      case measure => simp [intOf]; omega
                    · have hcy := hT.cell (k := y) (by omega)
                      obtain ⟨sy, hsy⟩ : ∃ s, s = T.getD y ByteArray.empty := ⟨_, rfl⟩
                      rw [← hsy] at hcy
                      have hyl : y < hi := by omega
                      have hyd : decide ((hi : Int) ≤ (y : Int)) = false := decide_eq_false (by omega)
                      by_cases hle : leB sx sy = true
                      · have hR := minv_left hinv hlq hxm (.inr (by rw [← hsx, ← hsy]; exact hle))
                        rw [← hsx] at hR
                        have hle' : (Op.bytesLess sx.toList sy.toList || sx.toList == sy.toList) = true := hle
                        clear hsx hsy hTk hBq hinv hle
                        go_wp2
                        go_quiet (fail)
                        go_wp2
                        go_roundw
                        case rel => exact ⟨x + 1, y, q + 1, Bq.set q sx, by go_num, rfl, by go_num, by omega, hR, (hT.drewN _).other hne _ _, (hB.drewN _).set _ _, (below_drewN hnx _).setCell hbb _⟩
                        case measure => simp [intOf]; omega
                      · have hlf : leB sx sy = false := by simpa using hle
                        have hR := (minv_right hinv hlq (.inr ⟨hyl, by rw [← hsx, ← hsy]; exact hlf⟩)).2
                        rw [← hsy] at hR
                        have hle' : (Op.bytesLess sx.toList sy.toList || sx.toList == sy.toList) = false := hlf
                        clear hsx hsy hTk hBq hinv hle hlf
                        go_wp2
                        go_quiet (fail)
                        go_wp2
                        go_roundw
                        case rel => exact ⟨x, y + 1, q + 1, Bq.set q sy, rfl, by go_num, by go_num, by omega, hR, (hT.drewN _).other hne _ _, (hB.drewN _).set _ _, (below_drewN hnx _).setCell hbb _⟩
                        case measure => simp [intOf]; omega
                  · have hR0 := minv_right hinv hlq (.inl (by omega))
                    have hyl := hR0.1
                    have hR := hR0.2
                    have hcy := hT.cell (k := y) (by omega)
                    obtain ⟨sy, hsy⟩ : ∃ s, s = T.getD y ByteArray.empty := ⟨_, rfl⟩
                    rw [← hsy] at hcy hR
                    have hxd : decide ((x : Int) < (mid : Int)) = false := decide_eq_false (by omega)
                    clear hsy hTk hBq hinv hR0
                    go_wp2
                    go_quiet (fail)
                    go_wp2
                    go_roundw
                    case rel => exact ⟨x, y + 1, q + 1, Bq.set q sy, rfl, by go_num, by go_num, by omega, hR, (hT.drewN _).other hne _ _, (hB.drewN _).set _ _, (below_drewN hnx _).setCell hbb _⟩
                    case measure => simp [intOf]; omega
                · have e : q = hi := by omega
                  subst e
                  clear hBq
                  have hR := row_done HLm.out HTl.out hinv
                  go_wp2
                  go_roundw
                  case rel => exact ⟨m + 1, L + 2 * W, Bq, by go_num, by rw [HLm.out]; rw [Nat.mul_add]; omega, by omega, hT, hB, hR.1, hR.2, hnx⟩
                  case measure => simp [intOf]; omega
            · have hP := pass_done HLm.out (by rw [HTl.out]; omega) (by rw [HBm.out, HTl.out]) HTk.out hblk hperm
              go_wp2
              go_roundw
              case rel => exact ⟨bb, ba, W * 2, Bm, T, rfl, rfl, by go_num, by omega, by omega, hne.symm, hbb, hba, hB, hT, HBm.out, HTl.out, hP.1, hP.2, hnx⟩
              case measure => simp [intOf]; omega
        · go_wp2
          go_ret
          exact ⟨ba, T, rfl, hT, hperm, blocks_all hblk (by rw [HTl.out]; omega), hnx⟩
end Go.Proofs.Qxb6619603a

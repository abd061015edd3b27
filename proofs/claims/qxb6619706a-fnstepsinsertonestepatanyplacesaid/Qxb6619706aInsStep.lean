/-
  WALK: zzInsertStep.
-/
import Derived.Test.Qxb6619706aBuild
namespace Go.Proofs.Qxb6619706a
open Go.RowKit

theorem Try.info25 : (Try.prog.info? 25).map (fun i => (i.zero, i.size, i.bytes)) = some (some (Stp.none.agg), 5, 72) := by kernel_rfl
def putStp (xs : List Stp) (at_ : Nat) (s : Stp) : List Stp := xs.take at_ ++ [s] ++ xs.drop at_
theorem stps_take_snoc {xs : List Stp} {k : Nat} (h : k < xs.length) : xs.take (k + 1) = xs.take k ++ [xs.getD k Stp.none] := by
  rw [List.take_succ_eq_append_getElem h]
  simp [List.getD, h]
theorem rowCells_one (s : Stp) : rowCells [s] = s.row := by simp [rowCells]
theorem box_at (w : World) (s : Stp) (t : TypeId) : StpAt (w.alloc (.cells #[.string s.tok, .string s.fau, .int .i64 s.st, .string s.ra, .string s.bod] t)) w.heap.size 0 s := by
  have h := fun j => cell_of_row _ w.heap.size j _ _ _ (heap_alloc_new w (.cells #[.string s.tok, .string s.fau, .int .i64 s.st, .string s.ra, .string s.bod] t))
  exact ⟨h 0, h 1, h 2, h 3, h 4⟩

theorem ownsRow_mono {w : World} {B B' e size n : Nat} {v : Value} {xs : List Value} (h : w.ownsRow B e size v n xs) (hB : B' ≤ B) : w.ownsRow B' e size v n xs := by
  refine ⟨h.1, ?_⟩
  rcases h.2 with h2 | ⟨g, cap, cur, hv, hg, r⟩
  · exact .inl h2
  · exact .inr ⟨g, cap, cur, hv, Nat.le_trans hB hg, r⟩

set_option maxRecDepth 100000 in
set_option maxHeartbeats 1000000 in
theorem insstep_any (a : Option Addr) (n c at_ : Nat) (xs : List Stp) (s : Stp) (w : World) (hl : Hid (xs.length = n)) (hn : n ≤ 1048576) (hat : at_ ≤ n) (hs : StepsAt w a xs) :
    Calls Try.prog 8 #[.slice a n c, .int .i64 (at_ : Int), .agg #[.string s.tok, .string s.fau, .int .i64 s.st, .string s.ra, .string s.bod]] w fun e w' => ∃ v, e = .returned v ∧ w'.ownsRow w.heap.size 25 5 v (n + 1) (rowCells (putStp xs at_ s)) ∧ Below w.heap.size w w' := by
  obtain ⟨i0, hi, hz0, hz1, hz2⟩ := info_parts Try.info25
  have hbox := box_at w s 25
  have hbx0 : Below w.heap.size w (w.alloc (.cells #[.string s.tok, .string s.fau, .int .i64 s.st, .string s.ra, .string s.bod] 25)) := (Below.refl _ _).alloc (Nat.le_refl _) _
  have hwz : w.heap.size ≤ (w.alloc (.cells #[.string s.tok, .string s.fau, .int .i64 s.st, .string s.ra, .string s.bod] 25)).heap.size := by simp
  have hs1 := hs.below hbx0
  go_enter Try.func8, Try.ntmps8
  go_upto_region 1 with go_in
  generalize (w.alloc (.cells #[.string s.tok, .string s.fau, .int .i64 s.st, .string s.ra, .string s.bod] 25)) = wB at *
  have hbox0 := hbox
  clear hs
  go_wp2_with (first | (at_make; refine wpList_make_own _ rfl _ _ 29 rfl wB.heap.size 25 i0 Stp.none.agg 5 Try.underlying29 hi hz0 hz1 .i64 .i64 _ (n + 1) rfl rfl ?m1 ?m2 ?m3 ?m4 ?_) | go_in)
  case m1 => omega
  case m2 => rw [hz2]; omega
  case m3 => unfold maxLen; omega
  case m4 => exact Nat.le_refl _
  intro w1 hown1 hgrow1
  have hb1 : Below wB.heap.size wB w1 := (Below.refl _ _).grown hgrow1 (Nat.le_refl _) (fun j hj => by cases hj)
  clear hgrow1
  go_wp2
  go_loopw [7, 8] (fun v i wr => ∃ k : Nat, k ≤ at_ ∧ i = .int .i64 (k : Int) ∧ wr.ownsRow wB.heap.size 25 5 v k (rowCells (xs.take k)) ∧ Below wB.heap.size wB wr) (fun _ i _ => at_ - (intOf i).toNat)
  case atStart => exact ⟨0, Nat.zero_le _, rfl, hown1, hb1⟩
  case round =>
    clear hown1 hb1
    obtain ⟨k, hk, rfl, hown, hbw⟩ := hrel
    have hbz := hbw.size
    have hlt := hown.lt
    by_cases hkl : k < at_
    · obtain ⟨b, off, rfl, hc⟩ := hs1 k (by rw [hl.out]; omega)
      have HT : Hid (rowCells (xs.take (k + 1)) = rowCells (xs.take k) ++ (xs.getD k Stp.none).row) := by
        show _ = _
        rw [stps_take_snoc (by rw [hl.out]; omega), rowCells_append, rowCells_one]
      have hd := hc.below hbw
      generalize xs.getD k Stp.none = x at *
      obtain ⟨d0, d1, d2, d3, d4⟩ := hd
      clear hc
      go_wp2_with (first
        | (at_builtin; refine wpList_append_own _ rfl _ _ 29 rfl wB.heap.size 25 i0 Stp.none.agg 5 72 Try.underlying29 hi hz0 hz1 hz2 rfl (by decide) _ _ _ rfl (hown.alloc _) ⟨wr.heap.size, 0, none⟩ 1 1 x.row rfl rfl (cell_row_new _ _ _) (stp_oneCell _) ?c3 ?c4 ?c5 ?_)
        | go_in)
      case c3 => unfold maxLen; omega
      case c4 => omega
      case c5 => simp; omega
      intro v' w2 hown' hgrow hnl
      go_wp2
      go_roundw
      case rel =>
        refine ⟨k + 1, by omega, by go_num, ?_, (hbw.alloc hbz _).grown hgrow (by simp; omega) (fun j hj => (hlt j hj).1)⟩
        rw [HT.out]
        exact hown'
      case measure => simp [intOf]; omega
    · have e : k = at_ := by omega
      rw [e] at hown
      clear e
      have hd := hbox.below hbw
      obtain ⟨d0, d1, d2, d3, d4⟩ := hd
      rw [Nat.zero_add] at d1 d2 d3 d4
      go_wp2_with (first
        | (at_builtin; refine wpList_append_own _ rfl _ _ 29 rfl wB.heap.size 25 i0 Stp.none.agg 5 72 Try.underlying29 hi hz0 hz1 hz2 rfl (by decide) _ _ _ rfl (hown.alloc _) ⟨wr.heap.size, 0, none⟩ 1 1 s.row rfl rfl (cell_row_new _ _ _) (stp_oneCell _) ?d3 ?d4 ?d5 ?_)
        | go_in)
      case d3 => unfold maxLen; omega
      case d4 => omega
      case d5 => simp; omega
      intro v' w2 hown' hgrow hnl
      have hb2 := (hbw.alloc hbz (.cells #[.string s.tok, .string s.fau, .int .i64 s.st, .string s.ra, .string s.bod] 25)).grown hgrow (by simp; omega) (fun j hj => (hlt j hj).1)
      have hown0 : w2.ownsRow wB.heap.size 25 5 v' (at_ + 1) (rowCells (xs.take at_ ++ [s])) := by
        rw [rowCells_append, rowCells_one]
        exact hown'
      clear hown hbw hbz hlt hgrow hnl d0 d1 d2 d3 d4 hown'
      go_wp2
      go_loopw [7, 9] (fun v i wx => ∃ j : Nat, at_ ≤ j ∧ j ≤ n ∧ i = .int .i64 (j : Int) ∧ wx.ownsRow wB.heap.size 25 5 v (j + 1) (rowCells (xs.take at_ ++ [s] ++ (xs.drop at_).take (j - at_))) ∧ Below wB.heap.size wB wx) (fun _ i _ => n - (intOf i).toNat)
      case atStart => exact ⟨at_, Nat.le_refl _, hat, rfl, by simpa using hown0, hb2⟩
      case round =>
        clear hown0 hb2
        obtain ⟨j, hj1, hj2, rfl, hown, hbw⟩ := hrel
        have hbz := hbw.size
        have hlt := hown.lt
        by_cases hjl : j < n
        · obtain ⟨b, off, rfl, hc⟩ := hs1 j (by rw [hl.out]; omega)
          have HT : Hid (rowCells (xs.take at_ ++ [s] ++ (xs.drop at_).take (j + 1 - at_)) = rowCells (xs.take at_ ++ [s] ++ (xs.drop at_).take (j - at_)) ++ (xs.getD j Stp.none).row) := by
            show _ = _
            have hl' := hl.out
            rw [show j + 1 - at_ = (j - at_) + 1 by omega, stps_take_snoc (by simp; omega), ← List.append_assoc, rowCells_append, rowCells_one]
            congr 2
            simp [List.getD, show at_ + (j - at_) = j by omega]
          have hd := hc.below hbw
          generalize xs.getD j Stp.none = x at *
          obtain ⟨d0, d1, d2, d3, d4⟩ := hd
          clear hc
          go_wp2_with (first
            | (at_builtin; refine wpList_append_own _ rfl _ _ 29 rfl wB.heap.size 25 i0 Stp.none.agg 5 72 Try.underlying29 hi hz0 hz1 hz2 rfl (by decide) _ _ _ rfl (hown.alloc _) ⟨wr.heap.size, 0, none⟩ 1 1 x.row rfl rfl (cell_row_new _ _ _) (stp_oneCell _) ?e3 ?e4 ?e5 ?_)
            | go_in)
          case e3 => unfold maxLen; omega
          case e4 => omega
          case e5 => simp; omega
          intro v' w2 hown' hgrow hnl
          go_wp2
          go_roundw
          case rel =>
            refine ⟨j + 1, by omega, by omega, by go_num, ?_, (hbw.alloc hbz _).grown hgrow (by simp; omega) (fun j hj => (hlt j hj).1)⟩
            rw [HT.out]
            simpa using hown'
          case measure => simp [intOf]; omega
        · have e : j = n := by omega
          rw [e, show (xs.drop at_).take (n - at_) = xs.drop at_ from List.take_of_length_le (by have := hl.out; simp; omega)] at hown
          clear e
          go_wp2
          go_ret
          exact ⟨_, rfl, ownsRow_mono hown hwz, hbx0.trans (hbw.mono hwz)⟩
end Go.Proofs.Qxb6619706a

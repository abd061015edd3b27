/-
  WALKS: zzModel, zzInsertStr.
-/
import Derived.Test.Qxb6619706aSmall
import Derived.Maps.AppendAt
namespace Go.Proofs.Qxb6619706a
open Go.RowKit

/-- The slice v of the call's own (blocks from B on) owns the strings ts. -/
def Own (B : Nat) (w : World) (v : Value) (ts : List ByteArray) : Prop := w.ownsRow B 9 1 v ts.length (ts.map Value.string)
theorem Own.shape {B : Nat} {w : World} {v : Value} {ts : List ByteArray} (h : Own B w v ts) :
    (v = .slice none 0 0 ∧ ts = []) ∨ ∃ g cap, v = .slice (some ⟨g, 0, none⟩) ts.length cap ∧ B ≤ g ∧ g < w.heap.size ∧ StrsAt w (some ⟨g, 0, none⟩) ts ∧ ∀ j, w.frozen? ⟨g, j, none⟩ = false := by
  have h' := h
  rcases h.2 with ⟨rfl, hn⟩ | ⟨g, cap, cur, rfl, hB, hg, _⟩
  · exact .inl ⟨rfl, List.eq_nil_of_length_eq_zero hn⟩
  · refine .inr ⟨g, cap, rfl, hB, (Array.getElem?_eq_some_iff.1 hg).1, ?_, fun j => World.ownsRow.frozenAt h' j⟩
    intro j hj
    refine ⟨g, 0, rfl, ?_⟩
    rw [Nat.zero_add, World.ownsRow.cellAt h' j (by omega)]
    simp [List.getD, hj]
theorem Own.below {B : Nat} {w w' : World} {v : Value} {ts : List ByteArray} (h : Own B w v ts) (hb : Below w.heap.size w w') : Own B w' v ts := by
  refine ⟨h.1, ?_⟩
  rcases h.2 with h2 | ⟨g, cap, cur, hv, hB, hg, r⟩
  · exact .inl h2
  · exact .inr ⟨g, cap, cur, hv, hB, (hb.block g (Array.getElem?_eq_some_iff.1 hg).1).trans hg, r⟩

theorem Try.info9 : (Try.prog.info? 9).map (fun i => (i.zero, i.size, i.bytes)) = some (some (.string ByteArray.empty), 1, 16) := by kernel_rfl
theorem str_oneCell (s : ByteArray) : ∀ u ∈ [Value.string s], u.oneCell' = true := by
  intro u hu
  simp at hu
  subst hu
  rfl

def toks (xs : List Stp) : List ByteArray := xs.map (·.tok)
theorem toks_snoc {xs : List Stp} {k : Nat} (h : k < xs.length) : toks (xs.take (k + 1)) = toks (xs.take k) ++ [(xs.getD k Stp.none).tok] := by
  unfold toks
  rw [List.take_succ_eq_append_getElem h, List.map_append, show xs.getD k Stp.none = xs[k] by simp [List.getD, h]]
  rfl
theorem toks_len (xs : List Stp) : (toks xs).length = xs.length := by simp [toks]

/-- What zzModel hands back: the tokens of q's last list. -/
def wanted (ns : List ByteArray) (L : List Lst) (n : Nat) (q : ByteArray) : List ByteArray := if lastTo ns q n < 0 then [] else toks (L.getD (lastTo ns q n).toNat Lst.none).xs

theorem lastTo_lt (ns : List ByteArray) (q : ByteArray) : ∀ n, lastTo ns q n < n ∧ -1 ≤ lastTo ns q n
  | 0 => by simp [lastTo]
  | k + 1 => by
    have := lastTo_lt ns q k
    rw [lastTo]
    split <;> omega

set_option maxRecDepth 100000 in
set_option maxHeartbeats 1000000 in
theorem model_any (a1 a2 : Option Addr) (n1 n2 c1 c2 n : Nat) (ns : List ByteArray) (L : List Lst) (q : ByteArray) (w : World) (hl1 : Hid (ns.length = n1)) (hl2 : Hid (L.length = n2)) (f1 : n1 ≤ 1048576) (hn1 : n ≤ n1) (hn2 : n ≤ n2)
    (h1 : StrsAt w a1 ns) (h2 : ListsAt w a2 L) (f2 : ListsFit 1048577 L) :
    Calls Try.prog 11 #[.slice a1 n1 c1, .slice a2 n2 c2, .int .i64 (n : Int), .string q] w fun e w' => ∃ v, e = .returned v ∧ Own w.heap.size w' v (wanted ns L n q) ∧ (wanted ns L n q = [] → v = .slice none 0 0) ∧ Below w.heap.size w w' := by
  obtain ⟨i0, hi, hz0, hz1, hz2⟩ := info_parts Try.info9
  go_enter Try.func11, Try.ntmps11
  go_wp2_with fail
  refine (last_any a1 n1 c1 n ns q w hl1 f1 hn1 h1).mono ?_
  rintro e w1 ⟨rfl, rfl⟩
  have hlt := lastTo_lt ns q n
  have HW : Hid (wanted ns L n q = if lastTo ns q n < 0 then [] else toks (L.getD (lastTo ns q n).toNat Lst.none).xs) := rfl
  generalize lastTo ns q n = z at *
  by_cases hz : z < 0
  · rw [if_pos hz] at HW
    go_wp2
    go_ret
    refine ⟨_, rfl, ?_, fun _ => rfl, Below.refl _ _⟩
    rw [HW.out]
    exact World.ownsRow_nil _ _ _ _
  · rw [if_neg hz] at HW
    obtain ⟨m, rfl⟩ := Int.eq_ofNat_of_zero_le (show 0 ≤ z by omega)
    rw [Int.toNat_natCast] at HW
    have hm : m < n := by omega
    obtain ⟨⟨b, off, rfl, hc⟩, hx⟩ := h2 m (by rw [hl2.out]; omega)
    have hxl := (f2.2 _ (lst_mem (show m < L.length by rw [hl2.out]; omega))).1
    generalize L.getD m Lst.none = l at *
    go_wp2
    go_loopw [10, 11] (fun v i wr => ∃ k : Nat, k ≤ l.xs.length ∧ i = .int .i64 (k : Int) ∧ wr.ownsRow w1.heap.size 9 1 v k ((toks (l.xs.take k)).map Value.string) ∧ (k = 0 → v = .slice none 0 0) ∧ Below w1.heap.size w1 wr) (fun _ i _ => l.xs.length - (intOf i).toNat)
    case atStart => exact ⟨0, Nat.zero_le _, rfl, World.ownsRow_nil _ _ _ _, fun _ => rfl, Below.refl _ _⟩
    case round =>
      obtain ⟨k, hk, rfl, hown, hnil, hbw⟩ := hrel
      have hcw := (hbw.cell (p := ⟨b, off + m, none⟩) (lt_of_cell hc)).trans hc
      by_cases hkl : k < l.xs.length
      · obtain ⟨bx, ox, hxa, hsx⟩ := hx k hkl
        have HT : Hid (toks (l.xs.take (k + 1)) = toks (l.xs.take k) ++ [(l.xs.getD k Stp.none).tok]) := toks_snoc hkl
        have hd := (hsx.below hbw).c0
        rw [hxa] at hcw
        generalize l.xs.getD k Stp.none = sx at *
        have hbz := hbw.size
        clear hc hsx hnil
        go_wp2_with (first
          | (at_builtin; refine wpList_append_own _ rfl _ _ 22 rfl w1.heap.size 9 i0 (.string ByteArray.empty) 1 16 Try.underlying22 hi hz0 hz1 hz2 rfl (by decide) _ _ _ rfl (hown.alloc _) ⟨wr.heap.size, 0, none⟩ 1 1 [.string sx.tok] rfl rfl (cell_one_new _ _ _) (str_oneCell _) ?c3 ?c4 ?c5 ?_)
          | go_in)
        case c3 => unfold maxLen; omega
        case c4 => omega
        case c5 => simp; omega
        intro v' w2 hown' hgrow hnl
        have hlt := hown.lt
        go_wp2
        go_roundw
        case rel =>
          refine ⟨k + 1, by omega, by go_num, ?_, fun h => by omega, ?_⟩
          · rw [HT.out, List.map_append]
            exact hown'
          · exact (hbw.alloc hbz _).grown hgrow (by simp; omega) (fun j hj => (hlt j hj).1)
        case measure => simp [intOf]; omega
      · have e : k = l.xs.length := by omega
        rw [e, List.take_length] at hown
        have HN : Hid (l.xs.length = 0 → k = 0) := fun h => by omega
        clear e
        go_wp2
        go_ret
        refine ⟨_, rfl, ?_, fun h => ?_, hbw⟩
        · rw [HW.out]
          unfold Own
          rw [toks_len]
          exact hown
        · refine hnil (HN.out ?_)
          rw [HW.out] at h
          have := congrArg List.length h
          rwa [toks_len] at this

/-- 'list', with s put in at place at. -/
def putIn (ts : List ByteArray) (at_ : Nat) (s : ByteArray) : List ByteArray := ts.take at_ ++ [s] ++ ts.drop at_
theorem strs_take_snoc {ts : List ByteArray} {k : Nat} (h : k < ts.length) : ts.take (k + 1) = ts.take k ++ [ts.getD k ByteArray.empty] := by
  rw [List.take_succ_eq_append_getElem h]
  simp [List.getD, h]

set_option maxRecDepth 100000 in
set_option maxHeartbeats 1000000 in
theorem insstr_any (a : Option Addr) (n c at_ : Nat) (ts : List ByteArray) (s : ByteArray) (w : World) (hl : Hid (ts.length = n)) (hn : n ≤ 1048577) (hat : at_ ≤ n) (hs : StrsAt w a ts) :
    Calls Try.prog 14 #[.slice a n c, .int .i64 (at_ : Int), .string s] w fun e w' => ∃ v, e = .returned v ∧ Own w.heap.size w' v (putIn ts at_ s) ∧ Below w.heap.size w w' := by
  obtain ⟨i0, hi, hz0, hz1, hz2⟩ := info_parts Try.info9
  go_enter Try.func14, Try.ntmps14
  go_wp2_with (first | (at_make; refine wpList_make_own _ rfl _ _ 22 rfl w.heap.size 9 i0 (.string ByteArray.empty) 1 Try.underlying22 hi hz0 hz1 .i64 .i64 _ (n + 1) rfl rfl ?m1 ?m2 ?m3 ?m4 ?_) | go_in)
  case m1 => omega
  case m2 => rw [hz2]; omega
  case m3 => unfold maxLen; omega
  case m4 => exact Nat.le_refl _
  intro w1 hown1 hgrow1
  have hb1 : Below w.heap.size w w1 := (Below.refl _ _).grown hgrow1 (Nat.le_refl _) (fun j hj => by cases hj)
  clear hgrow1
  go_wp2
  go_loopw [7, 8] (fun v i wr => ∃ k : Nat, k ≤ at_ ∧ i = .int .i64 (k : Int) ∧ wr.ownsRow w.heap.size 9 1 v k ((ts.take k).map Value.string) ∧ Below w.heap.size w wr) (fun _ i _ => at_ - (intOf i).toNat)
  case atStart => exact ⟨0, Nat.zero_le _, rfl, hown1, hb1⟩
  case round =>
    clear hown1 hb1
    obtain ⟨k, hk, rfl, hown, hbw⟩ := hrel
    have hbz := hbw.size
    have hlt := hown.lt
    by_cases hkl : k < at_
    · obtain ⟨b, off, rfl, hc⟩ := hs k (by rw [hl.out]; omega)
      have hcw := (hbw.cell (p := ⟨b, off + k, none⟩) (lt_of_cell hc)).trans hc
      have HT : Hid (ts.take (k + 1) = ts.take k ++ [ts.getD k ByteArray.empty]) := strs_take_snoc (by rw [hl.out]; omega)
      generalize ts.getD k ByteArray.empty = x at *
      clear hc
      go_wp2_with (first
        | (at_builtin; refine wpList_append_own _ rfl _ _ 22 rfl w.heap.size 9 i0 (.string ByteArray.empty) 1 16 Try.underlying22 hi hz0 hz1 hz2 rfl (by decide) _ _ _ rfl (hown.alloc _) ⟨wr.heap.size, 0, none⟩ 1 1 [.string x] rfl rfl (cell_one_new _ _ _) (str_oneCell _) ?c3 ?c4 ?c5 ?_)
        | go_in)
      case c3 => unfold maxLen; omega
      case c4 => omega
      case c5 => simp; omega
      intro v' w2 hown' hgrow hnl
      go_wp2
      go_roundw
      case rel =>
        refine ⟨k + 1, by omega, by go_num, ?_, (hbw.alloc hbz _).grown hgrow (by simp; omega) (fun j hj => (hlt j hj).1)⟩
        rw [HT.out]
        simpa using hown'
      case measure => simp [intOf]; omega
    · have e : k = at_ := by omega
      rw [e] at hown
      clear e
      go_wp2_with (first
        | (at_builtin; refine wpList_append_own _ rfl _ _ 22 rfl w.heap.size 9 i0 (.string ByteArray.empty) 1 16 Try.underlying22 hi hz0 hz1 hz2 rfl (by decide) _ _ _ rfl (hown.alloc _) ⟨wr.heap.size, 0, none⟩ 1 1 [.string s] rfl rfl (cell_one_new _ _ _) (str_oneCell _) ?d3 ?d4 ?d5 ?_)
        | go_in)
      case d3 => unfold maxLen; omega
      case d4 => omega
      case d5 => simp; omega
      intro v' w2 hown' hgrow hnl
      have hb2 := (hbw.alloc hbz (.cells #[.string s] 9)).grown hgrow (by simp; omega) (fun j hj => (hlt j hj).1)
      clear hown hbw hbz hlt hgrow hnl
      go_wp2
      go_loopw [7, 9] (fun v i wx => ∃ j : Nat, at_ ≤ j ∧ j ≤ n ∧ i = .int .i64 (j : Int) ∧ wx.ownsRow w.heap.size 9 1 v (j + 1) ((ts.take at_ ++ [s] ++ (ts.drop at_).take (j - at_)).map Value.string) ∧ Below w.heap.size w wx) (fun _ i _ => n - (intOf i).toNat)
      case atStart => exact ⟨at_, Nat.le_refl _, hat, rfl, by simpa using hown', hb2⟩
      case round =>
        clear hown' hb2
        obtain ⟨j, hj1, hj2, rfl, hown, hbw⟩ := hrel
        have hbz := hbw.size
        have hlt := hown.lt
        by_cases hjl : j < n
        · obtain ⟨b, off, rfl, hc⟩ := hs j (by rw [hl.out]; omega)
          have hcw := (hbw.cell (p := ⟨b, off + j, none⟩) (lt_of_cell hc)).trans hc
          have HT : Hid ((ts.drop at_).take (j + 1 - at_) = (ts.drop at_).take (j - at_) ++ [ts.getD j ByteArray.empty]) := by
            show _ = _
            have hl' := hl.out
            rw [show j + 1 - at_ = (j - at_) + 1 by omega, strs_take_snoc (by simp; omega)]
            congr 2
            simp [List.getD, show at_ + (j - at_) = j by omega]
          generalize ts.getD j ByteArray.empty = x at *
          clear hc
          go_wp2_with (first
            | (at_builtin; refine wpList_append_own _ rfl _ _ 22 rfl w.heap.size 9 i0 (.string ByteArray.empty) 1 16 Try.underlying22 hi hz0 hz1 hz2 rfl (by decide) _ _ _ rfl (hown.alloc _) ⟨wr.heap.size, 0, none⟩ 1 1 [.string x] rfl rfl (cell_one_new _ _ _) (str_oneCell _) ?e3 ?e4 ?e5 ?_)
            | go_in)
          case e3 => unfold maxLen; omega
          case e4 => omega
          case e5 => simp; omega
          intro v' w2 hown' hgrow hnl
          go_wp2
          go_roundw
          case rel =>
            refine ⟨j + 1, by omega, by omega, by go_num, ?_, (hbw.alloc hbz _).grown hgrow (by simp; omega) (fun j hj => (hlt j hj).1)⟩
            rw [HT.out]
            simpa using hown'
          case measure => simp [intOf]; omega
        · have e : j = n := by omega
          rw [e, show (ts.drop at_).take (n - at_) = ts.drop at_ from List.take_of_length_le (by have := hl.out; simp; omega)] at hown
          clear e
          go_wp2
          go_ret
          refine ⟨_, rfl, ?_, hbw⟩
          unfold Own
          have hl' := hl.out
          rw [show (putIn ts at_ s).length = n + 1 by simp [putIn]; omega]
          exact hown
end Go.Proofs.Qxb6619706a

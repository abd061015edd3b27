/-
  WALK: FnStepsInsertOneStepAtAnyPlace.
-/
import Derived.Test.Qxb6619706aFresh
import Derived.Test.Qxb6619706aBytesA
import Derived.Test.Qxb6619706aInsStep
import Derived.Deep.RegionWith
namespace Go.Proofs.Qxb6619706a
open Go.RowKit

/-! ### the row of headers -/
def Hdrs (w : World) (g : Nat) (vs : List Value) : Prop := w.heap[g]? = some (.cells vs.toArray 29 (0, 0))
theorem Hdrs.lt {w : World} {g : Nat} {vs : List Value} (h : Hdrs w g vs) : g < w.heap.size := (Array.getElem?_eq_some_iff.1 h).1
theorem Hdrs.cell {w : World} {g : Nat} {vs : List Value} (h : Hdrs w g vs) {k : Nat} (hk : k < vs.length) : w.cell? ⟨g, k, none⟩ = some (vs.getD k nilS) := by
  rw [cell_of_row w g k _ _ _ h]; simp [List.getD, hk]
theorem Hdrs.free {w : World} {g : Nat} {vs : List Value} (h : Hdrs w g vs) (k : Nat) : w.frozen? ⟨g, k, none⟩ = false := frozen_of_row w g k _ _ h
theorem Hdrs.set {w : World} {g : Nat} {vs : List Value} (h : Hdrs w g vs) (k : Nat) (v : Value) : Hdrs (w.setCell ⟨g, k, none⟩ v) g (vs.set k v) := by
  unfold Hdrs at *
  rw [heap_setCell_same w g k _ _ _ h]
  simp
theorem Hdrs.below {w w' : World} {g : Nat} {vs : List Value} (h : Hdrs w g vs) (hb : Below w.heap.size w w') : Hdrs w' g vs := (hb.block g h.lt).trans h
theorem Try.info29 : (Try.prog.info? 29).map (fun i => (i.zero, i.size, i.bytes)) = some (some nilS, 1, 24) := by kernel_rfl
def blank29 (n : Nat) : List Value := List.replicate n nilS
theorem make_hdrs (n : Nat) (hn : n ≤ 8388608) (w : World) : (Instr.makeSlice 23 (.int .i64 (n : Int)) (.int .i64 (n : Int))).run Try.prog w = .ok (.slice (some ⟨w.heap.size, 0, none⟩) n n) (w.alloc (.cells (blank29 n).toArray 29)) := by
  obtain ⟨i0, hi, hz0, hz1, hz2⟩ := info_parts Try.info29
  have h := run_make (P := Try.prog) w 23 29 i0 nilS Try.underlying23 hi hz0 .i64 .i64 (n : Int) (n : Int) (by omega) (Int.le_refl _) (by rw [hz2]; omega) (by omega)
  have e : madeCells nilS.cells (n * i0.size) = (blank29 n).toArray := by
    apply Array.toList_inj.1
    rw [hz1, Nat.mul_one]
    show (madeCells #[nilS] n).toList = _
    rw [toList_madeCells_one]
    rfl
  rw [Int.toNat_natCast, e] at h
  exact h

theorem StepsAt.other {w : World} {g g' k : Nat} {xs : List Stp} {v : Value} (h : StepsAt w (some ⟨g, 0, none⟩) xs) (hne : g ≠ g') : StepsAt (w.setCell ⟨g', k, none⟩ v) (some ⟨g, 0, none⟩) xs := by
  have hc : ∀ o, (w.setCell ⟨g', k, none⟩ v).cell? ⟨g, o, none⟩ = w.cell? ⟨g, o, none⟩ := fun o => World.cell?_of_block (w := w) (Below.heap_setCell _ _ _ _ hne)
  intro j hj
  obtain ⟨b, off, e, hs⟩ := h j hj
  injection e with e
  injection e with e1 e2
  subst e1 e2
  exact ⟨g, 0, rfl, (hc _).trans hs.c0, (hc _).trans hs.c1, (hc _).trans hs.c2, (hc _).trans hs.c3, (hc _).trans hs.c4⟩
/-- The lists with the new one laid in, in memory. -/
theorem lists2_at {w wc : World} {ad : Option Addr} {L : List Lst} {g n j : Nat} {vs : List Value} {l : Lst} (hL : ListsAt w ad L) (hn : n ≤ L.length) (hb : Below w.heap.size w wc) (hh : Hdrs wc g (vs.set j l.val)) (hvl : vs.length = n)
    (hvs : ∀ i, i < n → vs.getD i nilS = (L.getD i Lst.none).val) (hj : j < n) (hl : StepsAt wc l.a l.xs) : ListsAt wc (some ⟨g, 0, none⟩) ((L.take n).set j l) := by
  intro i hi
  simp at hi
  have hc := hh.cell (k := i) (by simp; omega)
  by_cases hij : i = j
  · subst hij
    have e1 : ((L.take n).set i l).getD i Lst.none = l := by
      simp only [List.getD]
      rw [List.getElem?_set_self (by simp; omega)]
      rfl
    have e2 : (vs.set i l.val).getD i nilS = l.val := by
      simp only [List.getD]
      rw [List.getElem?_set_self (by omega)]
      rfl
    rw [e1]
    rw [e2] at hc
    exact ⟨⟨g, 0, rfl, by rw [Nat.zero_add]; exact hc⟩, hl⟩
  · have e1 : ((L.take n).set j l).getD i Lst.none = L.getD i Lst.none := by
      simp only [List.getD]
      rw [List.getElem?_set_ne (Ne.symm hij), List.getElem?_take, if_pos (by omega)]
    have e2 : (vs.set j l.val).getD i nilS = (L.getD i Lst.none).val := by
      rw [← hvs i (by omega)]
      simp only [List.getD]
      rw [List.getElem?_set_ne (Ne.symm hij)]
    rw [e1]
    rw [e2] at hc
    exact ⟨⟨g, 0, rfl, by rw [Nat.zero_add]; exact hc⟩, (hL i (by omega)).2.below hb⟩

/-! ### the plain law -/
theorem toks_putStp (xs : List Stp) (at_ : Nat) (s : Stp) : toks (putStp xs at_ s) = putIn (toks xs) at_ s.tok := by
  simp [toks, putStp, putIn]
theorem putStp_length (xs : List Stp) (at_ : Nat) (s : Stp) : (putStp xs at_ s).length = xs.length + 1 := by
  simp [putStp]
  omega
/-- The lists with one step put in. -/
def lists2 (L : List Lst) (n j : Nat) (l : Lst) : List Lst := (L.take n).set j l
theorem lists2_length {L : List Lst} {n j : Nat} {l : Lst} (h : n ≤ L.length) : (lists2 L n j l).length = n := by
  simp [lists2]; omega
theorem lists2_same {L : List Lst} {n j : Nat} {l : Lst} (h : n ≤ L.length) (hj : j < n) : (lists2 L n j l).getD j Lst.none = l := by
  simp only [lists2, List.getD]
  rw [List.getElem?_set_self (by simp; omega)]
  rfl
theorem lists2_other {L : List Lst} {n j i : Nat} {l : Lst} (hi : i < n) (hne : i ≠ j) : (lists2 L n j l).getD i Lst.none = L.getD i Lst.none := by
  simp only [lists2, List.getD]
  rw [List.getElem?_set_ne (Ne.symm hne), List.getElem?_take, if_pos hi]
theorem wanted2 {ns : List ByteArray} {L : List Lst} {n j at_ : Nat} {l : Lst} {q : ByteArray} {s : Stp} (h : n ≤ L.length) (hj : j < n) (hl : l.xs = putStp (L.getD j Lst.none).xs at_ s) :
    wanted ns (lists2 L n j l) n q = if lastTo ns q n = (j : Int) then putIn (wanted ns L n q) at_ s.tok else wanted ns L n q := by
  have hlt := lastTo_lt ns q n
  unfold wanted
  by_cases hz : lastTo ns q n < 0
  · rw [if_pos hz, if_pos hz, if_neg (by omega)]
  · rw [if_neg hz, if_neg hz]
    obtain ⟨m, hm⟩ := Int.eq_ofNat_of_zero_le (show 0 ≤ lastTo ns q n by omega)
    rw [hm, Int.toNat_natCast]
    by_cases hmj : m = j
    · subst hmj
      rw [lists2_same h hj, if_pos rfl, hl, toks_putStp]
    · rw [lists2_other (by omega) hmj, if_neg (by omega)]
theorem lists2_fit {L : List Lst} {n j at_ : Nat} {l : Lst} {s : Stp} (hL : ListsFit 1048576 L) (h : n ≤ L.length) (hj : j < n) (hl : l.xs = putStp (L.getD j Lst.none).xs at_ s) (hs : StpFits 1048576 s) : ListsFit 1048577 (lists2 L n j l) := by
  have hm : ∀ s : Stp, StpFits 1048576 s → StpFits 1048577 s := fun s h => ⟨Nat.le_trans h.tok (by omega), Nat.le_trans h.fau (by omega), Nat.le_trans h.ra (by omega), Nat.le_trans h.bod (by omega)⟩
  refine ⟨by rw [lists2_length h]; have := hL.1; omega, fun x hx => ?_⟩
  rcases List.mem_or_eq_of_mem_set hx with hx | rfl
  · have hf := hL.2 x (List.mem_of_mem_take hx)
    exact ⟨by omega, fun s hs => hm s (hf.2 s hs)⟩
  · have hf := hL.2 _ (lst_mem (show j < L.length by omega))
    rw [hl]
    refine ⟨?_, fun t ht => ?_⟩
    · have := hf.1
      rw [putStp_length]
      omega
    · simp only [putStp, List.mem_append, List.mem_singleton] at ht
      rcases ht with (ht | rfl) | ht
      · exact hm _ (hf.2 t (List.mem_of_mem_take ht))
      · exact hm _ hs
      · exact hm _ (hf.2 t (List.mem_of_mem_drop ht))

set_option maxRecDepth 100000 in
set_option maxHeartbeats 1000000 in
theorem walkInsert (a0 a1 a2 : Option Addr) (c0 c1 c2 : Nat) (ks ns : List ByteArray) (L : List Lst) (jj aa : Int) (tk : Stp) (q : ByteArray) (w : World)
    (h0 : StrsAt w a0 ks) (h1 : StrsAt w a1 ns) (h2 : ListsAt w a2 L) (f0 : StrsFit maxLen ks) (f1 : StrsFit maxLen ns) (f2 : ListsFit maxLen L) (f3 : q.size ≤ maxLen) (f4 : StpFits maxLen tk) :
    Calls Try.prog 3 #[.slice a0 ks.length c0, .slice a1 ns.length c1, .slice a2 L.length c2, .int .i64 jj, .int .i64 aa, .agg #[.string tk.tok, .string tk.fau, .int .i64 tk.st, .string tk.ra, .string tk.bod], .string q] w fun e w' => e = .returned (.bool true) ∧ Below w.heap.size w w' := by
  have hbox := box_at w tk 25
  have hbx0 : Below w.heap.size w (w.alloc (.cells #[.string tk.tok, .string tk.fau, .int .i64 tk.st, .string tk.ra, .string tk.bod] 25)) := (Below.refl _ _).alloc (Nat.le_refl _) _
  have hwz : w.heap.size < (w.alloc (.cells #[.string tk.tok, .string tk.fau, .int .i64 tk.st, .string tk.ra, .string tk.bod] 25)).heap.size := by simp
  have h0B := h0.below hbx0
  have h1B := h1.below hbx0
  have h2B := h2.below hbx0
  go_enter Try.func3, Try.ntmps3
  go_upto_region 1 with go_in
  generalize (w.alloc (.cells #[.string tk.tok, .string tk.fau, .int .i64 tk.st, .string tk.ra, .string tk.bod] 25)) = wB at *
  clear h0 h1 h2
  have d0 := hbox.c0
  have d1 := hbox.c1
  have d2 := hbox.c2
  have d3 := hbox.c3
  have d4 := hbox.c4
  rw [Nat.zero_add] at d1 d2 d3 d4
  go_wp2_with fail
  refine (bytes5 jj aa tk a0 a1 a2 c0 c1 c2 ks ns L q _ h0B h1B h2B f0 f1 f2 f3 f4).mono ?_
  rintro e w1 ⟨r, rfl, hr, hb1⟩
  have hbw1 := hbx0.trans (hb1.mono (Nat.le_of_lt hwz))
  cases r
  · go_wp2
    go_ret
    exact ⟨rfl, hbw1⟩
  obtain ⟨g0, g1, g2, g3, g4⟩ := hr rfl
  clear hr d0 d1 d2 d3 d4
  have hk0 := g0.1
  have hk1 := g1.1
  have hk2 := g2.1
  obtain ⟨n0, e0⟩ : ∃ n0, n0 = ks.length := ⟨_, rfl⟩
  obtain ⟨n1, e1⟩ : ∃ n1, n1 = ns.length := ⟨_, rfl⟩
  obtain ⟨n2, e2⟩ : ∃ n2, n2 = L.length := ⟨_, rfl⟩
  rw [← e0, ← e1, ← e2]
  rw [← e0] at hk0
  rw [← e1] at hk1
  rw [← e2] at hk2
  have HL0 : Hid (ks.length = n0) := e0.symm
  have HL1 : Hid (ns.length = n1) := e1.symm
  have HL2 : Hid (L.length = n2) := e2.symm
  clear e0 e1 e2
  have hbox1 := hbox.below hb1
  have h01 := h0B.below hb1
  have h11 := h1B.below hb1
  have h21 := h2B.below hb1
  have d0 := hbox1.c0
  have d1 := hbox1.c1
  have d2 := hbox1.c2
  have d3 := hbox1.c3
  have d4 := hbox1.c4
  rw [Nat.zero_add] at d1 d2 d3 d4
  clear hbox h0B h1B h2B
  go_wp2_with fail
  refine (toobig_at a0 a1 a2 n0 n1 n2 c0 c1 c2 ks ns L q tk _ HL0 HL1 HL2 h01 h11 h21 g0 g1 g2 g3 g4).mono ?_
  rintro e w2 ⟨r, rfl, hb2⟩
  have hbw2 := hbw1.trans (hb2.mono hbw1.size)
  cases r
  case true =>
    go_wp2
    go_ret
    exact ⟨rfl, hbw2⟩
  clear d0 d1 d2 d3 d4
  have hbox2 := hbox1.below hb2
  have h02 := h01.below hb2
  have h12 := h11.below hb2
  have h22 := h21.below hb2
  have hz2 : w.heap.size < w2.heap.size := lt_of_cell hbox2.c0
  clear hbox1 h01 h11 h21 hb1 hb2 hbw1 hbx0 hwz
  go_wp2_with fail
  refine (pairs_any a1 a2 n1 n2 c1 c2 hk1 hk2 _).mono ?_
  rintro e w2' ⟨rfl, rfl⟩
  obtain ⟨n, hn⟩ : ∃ n, n = min n1 n2 := ⟨_, rfl⟩
  have hn1 : n ≤ n1 := by omega
  have hn2 : n ≤ n2 := by omega
  rw [← hn]
  clear hn
  by_cases hj0 : jj < 0
  · go_wp2
    go_ret
    exact ⟨rfl, hbw2⟩
  by_cases hjn : (n : Int) ≤ jj
  · go_wp2
    go_ret
    exact ⟨rfl, hbw2⟩
  obtain ⟨j, rfl⟩ := Int.eq_ofNat_of_zero_le (show 0 ≤ jj by omega)
  have hj : j < n := by omega
  have hj2 : j < n2 := by omega
  by_cases ha0 : aa < 0
  · go_wp2
    go_ret
    exact ⟨rfl, hbw2⟩
  obtain ⟨⟨b, off, rfl, hc⟩, hx⟩ := h22 j (by rw [HL2.out]; omega)
  obtain ⟨l, hle⟩ : ∃ l, l = L.getD j Lst.none := ⟨_, rfl⟩
  have hlf := (g2.2 _ (lst_mem (show j < L.length by rw [HL2.out]; omega))).1
  rw [← hle] at hc hx hlf
  have HLe : Hid (l = L.getD j Lst.none) := hle
  clear hle
  by_cases hal : ((l.xs.length : Nat) : Int) < aa
  · go_wp2
    go_ret
    exact ⟨rfl, hbw2⟩
  obtain ⟨at_, rfl⟩ := Int.eq_ofNat_of_zero_le (show 0 ≤ aa by omega)
  have hat : at_ ≤ l.xs.length := by omega
  have hmk := make_hdrs n (by omega)
  have hh0 : Hdrs (w2'.alloc (.cells (blank29 n).toArray 29)) w2'.heap.size (blank29 n) := heap_alloc_new _ _
  have hbn := (Below.refl w2'.heap.size w2').alloc (Nat.le_refl _) (.cells (blank29 n).toArray 29)
  go_wp2
  go_loopw [17] (fun i wr => ∃ k vs, k ≤ n ∧ i = .int .i64 ((k : Nat) : Int) ∧ Hdrs wr w2'.heap.size vs ∧ vs.length = n ∧ (∀ i, i < k → vs.getD i nilS = (L.getD i Lst.none).val) ∧ Below w2'.heap.size w2' wr) (fun i _ => n - (intOf i).toNat)
  case atStart => exact ⟨0, _, Nat.zero_le _, rfl, hh0, by simp [blank29], fun i hi => by omega, hbn⟩
  case round =>
    clear hh0 hbn hc
    obtain ⟨k, vs, hk, rfl, hh, hvl, hvs, hbn⟩ := hrel
    by_cases hkn : k < n
    · obtain ⟨⟨b', off', he, hc⟩, _⟩ := h22 k (by rw [HL2.out]; omega)
      injection he with he
      injection he with e1 e2
      subst e1 e2
      have hcw := (hbn.cell (p := ⟨b, off + k, none⟩) (lt_of_cell hc)).trans hc
      have hvs' : ∀ i, i < k + 1 → (vs.set k (L.getD k Lst.none).val).getD i nilS = (L.getD i Lst.none).val := by
        intro i hi
        simp only [List.getD]
        by_cases hik : i = k
        · subst hik
          rw [List.getElem?_set_self (by omega)]
          rfl
        · rw [List.getElem?_set_ne (Ne.symm hik)]
          exact hvs i (by omega)
      unfold Lst.val at hvs'
      generalize L.getD k Lst.none = lk at *
      have hf := hh.free k
      have ho := hh.cell (k := k) (by omega)
      have HV : Hid (∀ i, i < k + 1 → (vs.set k (.slice lk.a lk.xs.length lk.cap)).getD i nilS = (L.getD i Lst.none).val) := hvs'
      have HVl : Hid ((vs.set k (.slice lk.a lk.xs.length lk.cap)).length = n) := by show _ = _; rw [List.length_set]; exact hvl
      clear hvs' hc hvs hvl
      go_wp2
      go_roundw
      case rel => exact ⟨k + 1, _, by omega, by go_num, hh.set _ _, HVl.out, HV.out, hbn.setCell (Nat.le_refl _) _⟩
      case measure => simp [intOf]; omega
    · have hkk : k = n := by omega
      rw [hkk] at hvs
      clear hkk
      obtain ⟨⟨b', off', he, hc⟩, _⟩ := h22 j (by rw [HL2.out]; omega)
      injection he with he
      injection he with e1 e2
      subst e1 e2
      have hcj := (hbn.cell (p := ⟨b, off + j, none⟩) (lt_of_cell hc)).trans hc
      rw [← HLe.out] at hcj
      clear hc
      have hxw := hx.below hbn
      obtain ⟨d0, d1, d2, d3, d4⟩ := hbox2.below hbn
      rw [Nat.zero_add] at d1 d2 d3 d4
      have hf := hh.free j
      have ho := hh.cell (k := j) (by omega)
      have hwrz := hbn.size
      have hhl := hh.lt
      have HVS := veil hvs
      have HVL := veil hvl
      clear hvs hvl
      have HC : Hid (Calls Try.prog 8 #[.slice l.a l.xs.length l.cap, .int .i64 (at_ : Int), .agg #[.string tk.tok, .string tk.fau, .int .i64 tk.st, .string tk.ra, .string tk.bod]] wr.drew fun e w' =>
          ∃ g cap, e = .returned (.slice (some ⟨g, 0, none⟩) (l.xs.length + 1) cap) ∧ StepsAt w' (some ⟨g, 0, none⟩) (putStp l.xs at_ tk) ∧ wr.heap.size ≤ g ∧ Below wr.heap.size wr.drew w') := by
        refine (insstep_any l.a l.xs.length l.cap at_ l.xs tk wr.drew (veil rfl) hlf hat (hxw.below (Below.refl _ _).drew)).mono ?_
        rintro e w' ⟨v, rfl, ho, hb⟩
        have ho' := ho
        rcases ho.2 with ⟨_, h0⟩ | ⟨g, cap, cur, rfl, hg, _⟩
        · omega
        · rw [← putStp_length l.xs at_ tk] at ho'
          exact ⟨g, cap, rfl, steps_of_row ho', hg, hb⟩
      have HH : Hid (Hdrs wr w2'.heap.size vs) := hh
      have HD : Hid (∀ w5, Below wr.heap.size wr.drew w5 → w5.frozen? ⟨w2'.heap.size, j, none⟩ = false ∧ ∃ u, w5.cell? ⟨w2'.heap.size, j, none⟩ = some u) := by
        intro w5 hb
        have hh5 : Hdrs w5 w2'.heap.size vs := (hb.block _ hhl).trans hh
        exact ⟨hh5.free j, _, hh5.cell (k := j) (by rw [HVL.out]; exact hj)⟩
      clear hxw hh
      go_upto_region 15 with fail
      go_cut [82] (fun v82 wc => ∃ v', v82 = v' ∧ Hdrs wc w2'.heap.size (vs.set j v') ∧ RowIs wc v' (putStp l.xs at_ tk) ∧ Below w2'.heap.size w2' wc)
      case first =>
        go_region_with (go_at_call 8; refine HC.out.mono ?_; rintro e w5 ⟨g5, cap5, rfl, hst5, hg5, hb5⟩; obtain ⟨hf5, u5, ho5⟩ := HD.out w5 hb5)
        all_goals
          have hbF : Below w2'.heap.size w2' (w5.setCell ⟨w2'.heap.size, j, none⟩ (.slice (some ⟨g5, 0, none⟩) (l.xs.length + 1) cap5)) := ((hbn.drew).trans (hb5.mono hwrz)).setCell (Nat.le_refl _) _
          have hhF := (show Hdrs w5 w2'.heap.size vs from (hb5.block _ hhl).trans HH.out).set j (.slice (some ⟨g5, 0, none⟩) (l.xs.length + 1) cap5)
          have hstF := StepsAt.other (k := j) (v := .slice (some ⟨g5, 0, none⟩) (l.xs.length + 1) cap5) hst5 (show g5 ≠ w2'.heap.size by omega)
          clear hst5 hb5 hf5 ho5 d0 d1 d2 d3 d4 hcj
          go_wp2
          go_meet
          case rel => exact ⟨_, rfl, hhF, ⟨_, cap5, by rw [putStp_length], hstF⟩, hbF⟩
      obtain ⟨v', rfl, hh3, ⟨ad3, cap3, hv3, hst3⟩, hb3⟩ := hcut
      clear hcj d0 d1 d2 d3 d4 hf ho HC HH HD hmk hj0 hjn ha0 hal hx
      obtain ⟨lX, hlX⟩ : ∃ lX : Lst, lX = ⟨ad3, cap3, putStp l.xs at_ tk⟩ := ⟨_, rfl⟩
      have hlXx : lX.xs = putStp (L.getD j Lst.none).xs at_ tk := by rw [hlX, ← HLe.out]
      have hn2L : n ≤ L.length := by rw [HL2.out]; exact hn2
      rw [show u82 = lX.val by rw [hv3, hlX]; rfl] at hh3
      have hL2c : ListsAt wc (some ⟨w2'.heap.size, 0, none⟩) (lists2 L n j lX) := lists2_at h22 hn2L hb3 hh3 HVL.out HVS.out hj (by rw [hlX]; exact hst3)
      have hfit2 := lists2_fit g2 hn2L hj hlXx g4
      have HLL : Hid ((lists2 L n j lX).length = n) := lists2_length hn2L
      have HW2 : Hid (wanted ns (lists2 L n j lX) n q = if lastTo ns q n = (j : Int) then putIn (wanted ns L n q) at_ tk.tok else wanted ns L n q) := wanted2 hn2L hj hlXx
      have HWl : Hid (lastTo ns q n = (j : Int) → at_ ≤ (wanted ns L n q).length) := by
        intro h
        unfold wanted
        rw [h, if_neg (by omega), Int.toNat_natCast, toks_len, ← HLe.out]
        exact hat
      have h0c := h02.below hb3
      have h1c := h12.below hb3
      have h2c := h22.below hb3
      have hboxc := hbox2.below hb3
      have hbwc := hbw2.trans (hb3.mono (Nat.le_of_lt hz2))
      have gL := g2.mono (show 1048576 ≤ 1048577 by omega)
      have hzc : w2'.heap.size ≤ wc.heap.size := hb3.size
      clear hlX hlXx hh3 hst3 hv3 HVL HVS h02 h12 h22 hbox2 hb3 hbn hbw2
      generalize lists2 L n j lX = L2 at *
      generalize w2'.heap.size = gh at *
      go_wp2_with fail
      refine (build_any a0 a1 _ n0 n1 n2 c0 c1 c2 n ks ns L _ HL0 HL1 HL2 hk0 hk1 hn1 hn2 h0c h1c h2c gL f1.2).mono ?_
      rintro e w6 ⟨bp1, rfl, hp1, hb6⟩
      have h06 := h0c.below hb6
      have h16 := h1c.below hb6
      have hL26 := hL2c.below hb6
      go_wp2_with fail
      refine (build_any a0 a1 _ n0 n1 n c0 c1 n n ks ns L2 _ HL0 HL1 HLL hk0 hk1 hn1 (Nat.le_refl _) h06 h16 hL26 hfit2 f1.2).mono ?_
      rintro e w7 ⟨bp2, rfl, hp2, hb7⟩
      have hp17 := hp1.below hb7
      go_wp2_with fail
      refine (steps_any bp1 n ns L q _ f3 hp17 gL).mono ?_
      rintro e w8 ⟨vA, rfl, hA, hAn, hb8⟩
      have hp28 := hp2.below hb8
      go_wp2_with fail
      refine (steps_any bp2 n ns L2 q _ f3 hp28 hfit2).mono ?_
      rintro e w9 ⟨vB, rfl, hB, hBn, hb9⟩
      have h19 := (((h1c.below hb6).below hb7).below hb8).below hb9
      have h29 := (((h2c.below hb6).below hb7).below hb8).below hb9
      have hbox9 := (((hboxc.below hb6).below hb7).below hb8).below hb9
      have hA9 := hA.below hb9
      have hbw9 : Below w.heap.size w w9 := by
        have z0 := hbwc.size
        have z6 := hb6.size
        have z7 := hb7.size
        have z8 := hb8.size
        exact (((hbwc.trans (hb6.mono z0)).trans (hb7.mono (by omega))).trans (hb8.mono (by omega))).trans (hb9.mono (by omega))
      clear hp1 hp2 hp17 hp28 h06 h16 hL26 h0c h1c h2c hL2c hboxc hbwc hb6 hb7 hb8 hb9 hA
      go_wp2_with fail
      refine (model_any a1 _ n1 n2 c1 c2 n ns L q _ HL1 HL2 hk1 hn1 hn2 h19 h29 gL).mono ?_
      rintro e w10 ⟨vW, rfl, hW, hWn, hb10⟩
      have hA10 := hA9.below hb10
      have hB10 := hB.below hb10
      have h110 := h19.below hb10
      have hbox10 := hbox9.below hb10
      have hbw10 := hbw9.trans (hb10.mono hbw9.size)
      clear hA9 hB h19 h29 hbox9 hbw9 hb10
      have hTf := wanted_fits (ns := ns) (n := n) (q := q) g2
      have hTf2 := wanted_fits (ns := ns) (n := n) (q := q) hfit2
      generalize wanted ns L n q = T at *
      generalize wanted ns L2 n q = T2 at *
      obtain ⟨aA, cA, hvA, hAs, hAi, _⟩ := hA10.form hAn
      obtain ⟨aW, cW, hvW, hWs, _, _⟩ := hW.form hWn
      obtain ⟨aB, cB, hvB, hBs, hBi, _⟩ := hB10.form hBn
      obtain ⟨nT, eT⟩ : ∃ nT, nT = T.length := ⟨_, rfl⟩
      obtain ⟨nT2, eT2⟩ : ∃ nT2, nT2 = T2.length := ⟨_, rfl⟩
      rw [← eT] at hvA hAi hvW hTf HWl
      rw [← eT2] at hvB hBi hTf2
      have HnT : Hid (T.length = nT) := eT.symm
      have HnT2 : Hid (T2.length = nT2) := eT2.symm
      have hnT := hTf.1
      have hnT2 := hTf2.1
      rw [hvA, hvW, hvB]
      clear hvA hvW hvB eT eT2 hA10 hB10 hW hAn hBn hWn
      go_wp2_with fail
      refine (same_any aA aW nT cA cW T _ HnT (by omega) hAi hAs hWs).mono ?_
      rintro e w11 ⟨rfl, m, rfl⟩
      have hbw11 := below_drewN hbw10 m
      have h111 := h110.drewN m
      have hBs11 := hBs.drewN m
      have hWs11 := hWs.drewN m
      have hbox11 : StpAt (w10.drewN m) w.heap.size 0 tk := hbox10.below (below_drewN (Below.refl _ _) m)
      clear hbw10 h110 hBs hWs hAs hbox10
      generalize w10.drewN m = w11 at *
      go_wp2_with fail
      refine (last_any a1 n1 c1 n ns q _ HL1 hk1 hn1 h111).mono ?_
      rintro e w12 ⟨rfl, rfl⟩
      by_cases hz : lastTo ns q n = (j : Int)
      · have hW2 := HW2.out
        rw [if_pos hz] at hW2
        have hatT := HWl.out hz
        rw [hz]
        clear hz HW2 HWl
        have d0 := hbox11.c0
        go_wp2_with fail
        refine (insstr_any aW nT cW at_ T tk.tok _ HnT (by omega) hatT hWs11).mono ?_
        rintro e w13 ⟨v2, rfl, h2o, hb13⟩
        rw [← hW2] at h2o
        have hBs13 := hBs11.below hb13
        have hpos : 0 < T2.length := by rw [hW2]; simp [putIn]; omega
        have h2n : T2 = [] → v2 = .slice none 0 0 := fun h => by rw [h] at hpos; simp at hpos
        obtain ⟨a22, c22, hv22, hs22, _, _⟩ := h2o.form h2n
        rw [HnT2.out] at hv22
        rw [hv22]
        have hbw13 := hbw11.trans (hb13.mono hbw11.size)
        clear hv22 h2o hW2 hpos h2n d0
        go_wp2_with fail
        refine (same_any aB a22 nT2 cB c22 T2 _ HnT2 (by omega) hBi hBs13 hs22).mono ?_
        rintro e w14 ⟨rfl, m2, rfl⟩
        go_wp2
        go_ret
        exact ⟨rfl, below_drewN hbw13 _⟩
      · have hW2 := HW2.out
        rw [if_neg hz] at hW2
        have hzb : (lastTo ns q n == (j : Int)) = false := beq_eq_false_iff_ne.2 hz
        generalize lastTo ns q n = zz at *
        clear hz HW2 HWl
        have hnn : nT2 = nT := by rw [← HnT2.out, ← HnT.out, hW2]
        subst hnn
        rw [← hW2] at hWs11
        clear hW2
        go_wp2_with fail
        refine (same_any aB aW nT2 cB cW T2 _ HnT2 (by omega) hBi hBs11 hWs11).mono ?_
        rintro e w14 ⟨rfl, m2, rfl⟩
        go_wp2
        go_ret
        exact ⟨rfl, below_drewN hbw11 _⟩
end Go.Proofs.Qxb6619706a

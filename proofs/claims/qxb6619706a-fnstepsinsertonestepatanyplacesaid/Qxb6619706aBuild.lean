/-
  WALK: zzBuild.
-/
import Derived.Test.Qxb6619706aPlan
import Derived.Deep.DeepCutAuto
namespace Go.Proofs.Qxb6619706a
open Go.RowKit Go.Maps Go.WideMaps

/-! ### rows of steps that the call itself makes -/
def rowCells (xs : List Stp) : List Value := xs.flatMap Stp.row
theorem rowCells_append (xs ys : List Stp) : rowCells (xs ++ ys) = rowCells xs ++ rowCells ys := by simp [rowCells]
theorem rowCells_length (xs : List Stp) : (rowCells xs).length = xs.length * 5 := by
  induction xs with
  | nil => rfl
  | cons x xs ih =>
    show (x.row ++ rowCells xs).length = _
    rw [List.length_append, ih]
    simp [Stp.row]
    omega
theorem rowCells_at : ∀ (xs : List Stp) (j : Nat), j < xs.length → ∀ i, i < 5 → (rowCells xs)[j * 5 + i]? = (xs.getD j Stp.none).row[i]?
  | x :: xs, 0, _, i, hi => by
    show (x.row ++ rowCells xs)[0 * 5 + i]? = _
    rw [Nat.zero_mul, Nat.zero_add, List.getElem?_append_left (by simp [Stp.row]; omega)]
    rfl
  | x :: xs, j + 1, hj, i, hi => by
    show (x.row ++ rowCells xs)[(j + 1) * 5 + i]? = _
    rw [List.getElem?_append_right (by simp [Stp.row]; omega)]
    have e : (j + 1) * 5 + i - x.row.length = j * 5 + i := by simp [Stp.row]; omega
    rw [e, rowCells_at xs j (by simpa using hj) i hi]
    rfl
theorem steps_of_row {w : World} {B g cap e : Nat} {xs : List Stp} (h : w.ownsRow B e 5 (.slice (some ⟨g, 0, none⟩) xs.length cap) xs.length (rowCells xs)) : StepsAt w (some ⟨g, 0, none⟩) xs := by
  intro j hj
  refine ⟨g, 0, rfl, ?_⟩
  rw [Nat.zero_add]
  have hc := fun i (hi : i < 5) => (World.ownsRow.cellAt h (j * 5 + i) (by omega)).trans (rowCells_at xs j hj i hi)
  exact ⟨hc 0 (by omega), hc 1 (by omega), hc 2 (by omega), hc 3 (by omega), hc 4 (by omega)⟩
theorem rowis_of_own {w : World} {B e n : Nat} {v : Value} {xs : List Stp} (hn : n = xs.length) (h : w.ownsRow B e 5 v n (rowCells xs)) : RowIs w v xs := by
  subst hn
  have h' := h
  rcases h.2 with ⟨rfl, hn⟩ | ⟨g, cap, cur, rfl, _⟩
  · refine ⟨none, 0, by rw [hn], fun j hj => by omega⟩
  · exact ⟨_, cap, rfl, steps_of_row h'⟩

theorem Try.info45 : (Try.prog.info? 45).map (fun i => (i.zero, i.size, i.bytes)) = some (some (Stp.none.agg), 5, 72) := by kernel_rfl
theorem stp_oneCell (s : Stp) : ∀ u ∈ s.row, u.oneCell' = true := by
  intro u hu
  simp only [Stp.row, List.mem_cons, List.mem_nil_iff, or_false] at hu
  rcases hu with rfl | rfl | rfl | rfl | rfl <;> rfl
theorem cell_row_new (w : World) (s : Stp) (t : TypeId) : ∀ j u, s.row[j]? = some u → (w.alloc (.cells #[.string s.tok, .string s.fau, .int .i64 s.st, .string s.ra, .string s.bod] t)).cell? ((⟨w.heap.size, 0, none⟩ : Addr).add j) = some u := by
  intro j u hj
  have hadd : (⟨w.heap.size, 0, none⟩ : Addr).add j = ⟨w.heap.size, j, none⟩ := by unfold Addr.add; split <;> simp_all
  rw [hadd, cell_of_row _ _ _ _ _ _ (heap_alloc_new _ _)]
  rw [← hj]
  simp [Stp.row]

/-- A cell stays while a map's block is turned. -/
theorem cell_past_map {w w' : World} {bm : Nat} {es : Array MapEntry} {cl : Nat} (hm : w.heap[bm]? = some (.map es cl)) (hg : w.grownBy w' (some bm)) {b o : Nat} {v : Value} (h : w.cell? ⟨b, o, none⟩ = some v) : w'.cell? ⟨b, o, none⟩ = some v := by
  have hne : b ≠ bm := by
    intro e
    subst e
    simp [World.cell?, hm] at h
  rw [← h]
  exact World.cell?_of_block (w := w) (hg.block b (lt_of_cell h) (by simpa using hne))
theorem RowIs.past_map {w w' : World} {bm : Nat} {es : Array MapEntry} {cl : Nat} (hm : w.heap[bm]? = some (.map es cl)) (hg : w.grownBy w' (some bm)) {v : Value} {xs : List Stp} (h : RowIs w v xs) : RowIs w' v xs := by
  obtain ⟨ad, cap, e, hx⟩ := h
  refine ⟨ad, cap, e, fun j hj => ?_⟩
  obtain ⟨b, off, ea, hs⟩ := hx j hj
  exact ⟨b, off, ea, cell_past_map hm hg hs.c0, cell_past_map hm hg hs.c1, cell_past_map hm hg hs.c2, cell_past_map hm hg hs.c3, cell_past_map hm hg hs.c4⟩

/-- One more pair. -/
theorem PlanMap.put {w w' : World} {bm j k : Nat} {ns : List ByteArray} {vs : List Value} {L : List Lst} {v : Value} (h : PlanMap w bm j ns vs L) (hg : w.grownBy w' (some bm))
    (hm' : w'.ownsMap Try.prog 9 asIs bm (k + 1) ((mapTo ns vs j).put (.string (ns.getD j ByteArray.empty).data.toList) (.held v))) (hk : k ≤ j) (hv : RowIs w v (L.getD j Lst.none).xs) : PlanMap w' bm (j + 1) ns (vs ++ [v]) L := by
  obtain ⟨⟨_, ⟨es, cl, hh, _⟩, _⟩, hl, hr⟩ := h
  refine ⟨⟨k + 1, ?_, by omega⟩, by simp [hl], fun i hi => ?_⟩
  · have e1 : mapTo ns (vs ++ [v]) (j + 1) = (mapTo ns vs j).put (.string (ns.getD j ByteArray.empty).data.toList) (.held v) := by
      rw [mapTo, mapTo_append ns vs v j (by omega)]
      congr 2
      simp [List.getD, hl.symm]
    rw [e1]
    exact hm'
  · by_cases hij : i = j
    · subst hij
      have e2 : (vs ++ [v]).getD i nilS = v := by simp [List.getD, hl.symm]
      rw [e2]
      exact hv.past_map hh hg
    · have e2 : (vs ++ [v]).getD i nilS = vs.getD i nilS := by
        simp only [List.getD]
        rw [List.getElem?_append_left (by omega)]
      rw [e2]
      exact (hr i (by omega)).past_map hh hg

theorem ownsRow_below {w w' : World} {B e size n : Nat} {v : Value} {xs : List Value} (h : w.ownsRow B e size v n xs) (hb : Below w.heap.size w w') : w'.ownsRow B e size v n xs := by
  refine ⟨h.1, ?_⟩
  rcases h.2 with h2 | ⟨g, cap, cur, hv, hB, hg, r⟩
  · exact .inl h2
  · exact .inr ⟨g, cap, cur, hv, hB, (hb.block g (Array.getElem?_eq_some_iff.1 hg).1).trans hg, r⟩

def blank (n : Nat) : Array Value := ((List.replicate n ByteArray.empty).map Value.string).toArray
theorem make_strs (n : Nat) (hn : n ≤ 8388608) (w : World) : (Instr.makeSlice 22 (.int .i64 (n : Int)) (.int .i64 (n : Int))).run Try.prog w = .ok (.slice (some ⟨w.heap.size, 0, none⟩) n n) (w.alloc (.cells (blank n) 9)) := by
  obtain ⟨i0, hi, hz0, hz1, hz2⟩ := info_parts Try.info9
  have h := run_make (P := Try.prog) w 22 9 i0 (.string ByteArray.empty) Try.underlying22 hi hz0 .i64 .i64 (n : Int) (n : Int) (by omega) (Int.le_refl _) (by rw [hz2]; omega) (by omega)
  have e : madeCells (Value.string ByteArray.empty).cells (n * i0.size) = blank n := by
    apply Array.toList_inj.1
    rw [hz1, Nat.mul_one]
    show (madeCells #[Value.string ByteArray.empty] n).toList = _
    rw [toList_madeCells_one]
    simp [blank]
  rw [Int.toNat_natCast, e] at h
  exact h

/-- Block g is a row of n cells that may be written. -/
def Cells9 (w : World) (g n : Nat) : Prop := ∃ cur : Array Value, w.heap[g]? = some (.cells cur 9 (0, 0)) ∧ cur.size = n
theorem Cells9.set {w : World} {g n : Nat} (h : Cells9 w g n) (k : Nat) (v : Value) : Cells9 (w.setCell ⟨g, k, none⟩ v) g n := by
  obtain ⟨cur, hg, hs⟩ := h
  exact ⟨_, heap_setCell_same w g k cur 9 v hg, by simpa using hs⟩
theorem Cells9.at {w : World} {g n : Nat} (h : Cells9 w g n) {k : Nat} (hk : k < n) : ∃ u, w.cell? ⟨g, k, none⟩ = some u := by
  obtain ⟨cur, hg, hs⟩ := h
  exact ⟨cur[k], by rw [cell_of_row w g k _ _ _ hg]; simp [show k < cur.size by omega]⟩
theorem Cells9.free {w : World} {g n : Nat} (h : Cells9 w g n) (k : Nat) : w.frozen? ⟨g, k, none⟩ = false := by
  obtain ⟨cur, hg, hs⟩ := h
  exact frozen_of_row w g k _ _ hg

set_option maxRecDepth 100000 in
set_option maxHeartbeats 1000000 in
theorem build_any (a0 a1 a2 : Option Addr) (n0 n1 n2 c0 c1 c2 n : Nat) (ks ns : List ByteArray) (L : List Lst) (w : World) (hl0 : Hid (ks.length = n0)) (hl1 : Hid (ns.length = n1)) (hl2 : Hid (L.length = n2))
    (f0 : n0 ≤ 1048576) (f1 : n1 ≤ 1048576) (hn1 : n ≤ n1) (hn2 : n ≤ n2) (h0 : StrsAt w a0 ks) (h1 : StrsAt w a1 ns) (h2 : ListsAt w a2 L) (f2 : ListsFit 1048577 L) (fs : ∀ s ∈ ns, s.size ≤ maxLen) :
    Calls Try.prog 9 #[.slice a0 n0 c0, .slice a1 n1 c1, .slice a2 n2 c2, .int .i64 (n : Int)] w fun e w' => ∃ bp, e = .returned (.pointer (some ⟨bp, 0, none⟩)) ∧ PlanAt w' bp n ns L ∧ Below w.heap.size w w' := by
  obtain ⟨i0, hi, hz0, hz1, hz2⟩ := info_parts Try.info45
  have hmk := make_strs n0 (by omega)
  have hnn := fun w t e a => @run_neq_slice_nil_any Try.prog w t e a
  go_enter Try.func9, Try.ntmps9
  go_upto_if 17 with fail
  go_cut [9] (fun v9 wc => ∃ a9 m9 c9, v9 = .slice a9 m9 c9 ∧ Below w.heap.size w wc)
  case first =>
    cases a0 with
    | none =>
      go_wp2
      go_meet
      case rel => exact ⟨none, 0, 0, rfl, Below.refl _ _⟩
    | some a =>
      go_wp2
      go_loopw [10] (fun i wr => ∃ k : Nat, k ≤ n0 ∧ i = .int .i64 (k : Int) ∧ Cells9 wr w.heap.size n0 ∧ Below w.heap.size w wr) (fun i _ => n0 - (intOf i).toNat)
      case atStart => exact ⟨0, Nat.zero_le _, rfl, ⟨_, heap_alloc_new _ _, by simp [blank]⟩, (Below.refl _ _).alloc (Nat.le_refl _) _⟩
      case round =>
        obtain ⟨k, hk, rfl, hrow, hbw⟩ := hrel
        by_cases hlt : k < n0
        · obtain ⟨b, off, ha, hc⟩ := h0 k (by rw [hl0.out]; exact hlt)
          injection ha with ha
          subst ha
          have hcw := (hbw.cell (p := ⟨b, off + k, none⟩) (lt_of_cell hc)).trans hc
          have hf := hrow.free k
          obtain ⟨u, ho⟩ := hrow.at hlt
          clear hc
          go_wp2
          go_roundw
          case rel => exact ⟨k + 1, by omega, by go_num, hrow.set _ _, hbw.setCell (Nat.le_refl _) _⟩
          case measure => simp [intOf]; omega
        · go_wp2
          go_meet
          case rel => exact ⟨_, _, _, rfl, hbw⟩
  obtain ⟨a9, m9, c9, rfl, hb0⟩ := hcut
  clear hmk
  have hmm := @run_makeMap Try.prog
  have hb1 := hb0.alloc hb0.size (.map #[] 0)
  have hz0' := hb0.size
  have hpm : PlanMap (wc.alloc (.map #[] 0)) wc.heap.size 0 ns [] L := ⟨⟨0, World.ownsMap_made _ _ _ _, Nat.le_refl _⟩, rfl, fun i hi => by omega⟩
  go_wp2
  generalize wc.heap.size = bm at *
  go_loopw [12] (fun i wr => ∃ j vs, j ≤ n ∧ i = .int .i64 ((j : Nat) : Int) ∧ PlanMap wr bm j ns vs L ∧ Below w.heap.size w wr) (fun i _ => n - (intOf i).toNat)
  case atStart => exact ⟨0, [], Nat.zero_le _, rfl, hpm, hb1⟩
  case round =>
    clear hpm hb1 hb0
    obtain ⟨j, vs, hj, rfl, hpm, hbw⟩ := hrel
    by_cases hlt : j < n
    · obtain ⟨⟨b, off, rfl, hc⟩, hx⟩ := h2 j (by rw [hl2.out]; omega)
      have hxl := (f2.2 _ (lst_mem (show j < L.length by rw [hl2.out]; omega))).1
      have HV : Hid (∀ w' v, RowIs w' v (L.getD j Lst.none).xs → RowIs w' v (L.getD j Lst.none).xs) := fun _ _ h => h
      obtain ⟨l, hle⟩ : ∃ l, l = L.getD j Lst.none := ⟨_, rfl⟩
      rw [← hle] at hc hx hxl
      have HLe : Hid (l = L.getD j Lst.none) := hle
      clear hle HV
      have hcw := (hbw.cell (p := ⟨b, off + j, none⟩) (lt_of_cell hc)).trans hc
      go_upto_if 44 with fail
      go_cut [13] (fun v13 wx => wx.ownsRow wr.heap.size 45 5 v13 0 [] ∧ Below wr.heap.size wr wx)
      case first =>
        cases hla : l.a with
        | none =>
          rw [hla] at hcw
          go_wp2
          go_meet
          case rel => exact ⟨World.ownsRow_nil _ _ _ _, Below.refl _ _⟩
        | some al =>
          rw [hla] at hcw
          go_wp2_with (first | (at_make; refine wpList_make_own _ rfl _ _ 42 rfl wr.heap.size 45 i0 Stp.none.agg 5 Try.underlying42 hi hz0 hz1 .i64 .i64 _ l.xs.length rfl rfl ?m1 ?m2 ?m3 ?m4 ?_) | go_in)
          case m1 => rfl
          case m2 => rw [hz2]; omega
          case m3 => unfold maxLen; omega
          case m4 => exact Nat.le_refl _
          intro w1 hown1 hgrow1
          go_wp2
          go_meet
          case rel => exact ⟨hown1, (Below.refl _ _).grown hgrow1 (Nat.le_refl _) (fun j hj => by cases hj)⟩
      obtain ⟨hown0, hb0⟩ := hcut
      have hcx := (hb0.cell (p := ⟨b, off + j, none⟩) (lt_of_cell hcw)).trans hcw
      have hwz := hbw.size
      clear hcw
      go_wp2
      go_loopw [13, 14] (fun v i wy => ∃ k : Nat, k ≤ l.xs.length ∧ i = .int .i64 (k : Int) ∧ wy.ownsRow wr.heap.size 45 5 v k (rowCells (l.xs.take k)) ∧ Below wr.heap.size wr wy) (fun _ i _ => l.xs.length - (intOf i).toNat)
      case atStart => exact ⟨0, Nat.zero_le _, rfl, hown0, hb0⟩
      case round =>
        clear hown0 hb0 hcx
        obtain ⟨k, hk, rfl, hown, hb2⟩ := hrel
        have hb3 := hbw.trans (hb2.mono hwz)
        have hcx := (hb3.cell (p := ⟨b, off + j, none⟩) (lt_of_cell hc)).trans hc
        have hbz := hb2.size
        have hrl := hown.lt
        by_cases hkl : k < l.xs.length
        · obtain ⟨bx, ox, hxa, hsx⟩ := hx k hkl
          have HT : Hid (rowCells (l.xs.take (k + 1)) = rowCells (l.xs.take k) ++ (l.xs.getD k Stp.none).row) := by
            show _ = _
            rw [List.take_succ_eq_append_getElem hkl, rowCells_append]
            simp [rowCells, List.getD, hkl]
          have hd := hsx.below hb3
          rw [hxa] at hcx
          generalize l.xs.getD k Stp.none = sx at *
          obtain ⟨d0, d1, d2, d3, d4⟩ := hd
          clear hsx
          go_wp2_with fail
          refine (makestep_any sx.tok sx.fau sx.ra sx.bod sx.st _).mono ?_
          rintro e w2 ⟨rfl, hb4⟩
          have hown2 := ownsRow_below (hown.alloc _) hb4
          have hb5 := ((hb2.alloc hbz _).trans (hb4.mono (by simp; omega)))
          have hb5z := hb5.size
          clear hb4 hown
          go_wp2_with (first
            | (at_builtin; refine wpList_append_own _ rfl _ _ 42 rfl _ 45 i0 Stp.none.agg 5 72 Try.underlying42 hi hz0 hz1 hz2 rfl (by decide) _ _ _ rfl (hown2.alloc _) ⟨w2.heap.size, 0, none⟩ 1 1 sx.row rfl rfl (cell_row_new _ _ _) (stp_oneCell _) ?c3 ?c4 ?c5 ?_)
            | go_in)
          case c3 => unfold maxLen; omega
          case c4 => omega
          case c5 => simp; omega
          intro v' w3 hown' hgrow hnl
          go_wp2
          go_roundw
          case rel =>
            refine ⟨k + 1, by omega, by go_num, ?_, (hb5.alloc hb5z _).grown hgrow (by simp; omega) (fun j hj => (hrl j hj).1)⟩
            rw [HT.out]
            exact hown'
          case measure => simp [intOf]; omega
        · have e : k = l.xs.length := by omega
          rw [e, List.take_length] at hown
          have hrow := rowis_of_own rfl hown
          rw [HLe.out] at hrow
          have hpm2 := hpm.below hb2
          obtain ⟨⟨km, hmo, hkm⟩, _⟩ := id hpm2
          obtain ⟨b1, o1, rfl, hcn⟩ := h1 j (by rw [hl1.out]; omega)
          have hcn2 := (hb3.cell (p := ⟨b1, o1 + j, none⟩) (lt_of_cell hcn)).trans hcn
          have hkey : keyOf Try.prog 9 (.string (ns.getD j ByteArray.empty)) = some (.string (ns.getD j ByteArray.empty).data.toList) := keyOf_string_mk Try.underlying9 (fs _ (mem_getD (by rw [hl1.out]; omega)))
          obtain ⟨x, hxe⟩ : ∃ x, x = ns.getD j ByteArray.empty := ⟨_, rfl⟩
          rw [← hxe] at hcn2 hkey
          have HX : Hid (x = ns.getD j ByteArray.empty) := hxe
          clear hxe hcn hpm e
          go_wp2_with (first
            | (at_mapUpdate; refine wpList_mapUpdate_own _ rfl _ _ _ 41 rfl 9 42 law9 Try.underlying41 asIs bm km _ rfl hmo ?g1 _ _ _ rfl rfl hkey _ [] rfl ?_)
            | go_in)
          case g1 => unfold maxLen; omega
          intro w4 hmo4 hg4
          rw [HX.out] at hmo4
          have hpm4 := hpm2.put hg4 hmo4 hkm hrow
          go_wp2
          go_roundw
          case rel => exact ⟨j + 1, _, by omega, by go_num, hpm4, hb3.grown hg4 hb3.size (fun k hk => by cases hk; exact hz0')⟩
          case measure => simp [intOf]; omega
    · have e : j = n := by omega
      rw [e] at hpm
      clear e
      go_wp2_with fail
      refine (newplan_any a9 m9 c9 bm _).mono ?_
      rintro e w5 ⟨rfl, rfl⟩
      have hpa : PlanAt (wr.alloc (.cells #[.slice a9 m9 c9, .map (some bm)] 49)) wr.heap.size n ns L := by
        refine ⟨bm, vs, ?_, hpm.below ((Below.refl _ _).alloc (Nat.le_refl _) _)⟩
        rw [cell_of_row _ _ _ _ _ _ (heap_alloc_new _ _)]
        rfl
      go_wp2
      go_ret
      exact ⟨_, rfl, hpa, hbw.alloc hbw.size _⟩
end Go.Proofs.Qxb6619706a

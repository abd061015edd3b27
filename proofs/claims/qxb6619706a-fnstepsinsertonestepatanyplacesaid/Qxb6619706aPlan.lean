/-
  A PLAN IN MEMORY; WALKS: ZZMakeStep, ZZNewPlan, Steps.
-/
import Derived.Test.Qxb6619706aModel
import Derived.Maps.OwnSet
namespace Go.Proofs.Qxb6619706a
open Go.RowKit Go.Maps Go.WideMaps

/-! ### the plan's map: each element reads as itself -/
def asIs (v : Value) : Option (DataW Value × List MemPlace) := some (.held v, [])
theorem law9 : Keyed Try.prog 9 := string_keyed Try.underlying9
theorem zero42 (w : World) : (zeroValue 42).run Try.prog w = .ok (.slice none 0 0) w := by kernel_rfl

def nilS : Value := .slice none 0 0
def mapTo (ns : List ByteArray) (vs : List Value) : Nat → DataW Value
  | 0 => .map []
  | k + 1 => (mapTo ns vs k).put (.string (ns.getD k ByteArray.empty).data.toList) (.held (vs.getD k nilS))
theorem mapTo_isMap (ns : List ByteArray) (vs : List Value) : ∀ k, IsMap (mapTo ns vs k)
  | 0 => ⟨[], rfl⟩
  | k + 1 => (mapTo_isMap ns vs k).put _ _
theorem mapTo_append (ns : List ByteArray) (vs : List Value) (v : Value) : ∀ k, k ≤ vs.length → mapTo ns (vs ++ [v]) k = mapTo ns vs k
  | 0, _ => rfl
  | k + 1, h => by
    rw [mapTo, mapTo, mapTo_append ns vs v k (by omega)]
    congr 2
    simp only [List.getD]
    rw [List.getElem?_append_left (by omega)]
theorem toList_inj' {a b : ByteArray} (h : a.toList = b.toList) : a = b := by
  rw [ByteArray.toList_eq, ByteArray.toList_eq] at h
  cases a; cases b
  congr
  exact Array.toList_inj.1 h
theorem mapTo_at (ns : List ByteArray) (vs : List Value) (q : ByteArray) : ∀ k, (mapTo ns vs k).atKey (.string q.data.toList) (.held nilS) = .held (if lastTo ns q k < 0 then nilS else vs.getD (lastTo ns q k).toNat nilS)
  | 0 => by
    rw [mapTo, atKey_of_not_has rfl]
    rfl
  | k + 1 => by
    rw [mapTo, lastTo]
    by_cases h : ((ns.getD k ByteArray.empty).toList == q.toList) = true
    · have e : ns.getD k ByteArray.empty = q := toList_inj' (by simpa using h)
      rw [if_pos h, e, atKey_put_same (mapTo_isMap ns vs k) (k := .string q.data.toList) trivial, if_neg (by omega), Int.toNat_natCast]
    · have hne : (Lit.string q.data.toList) ≠ .string (ns.getD k ByteArray.empty).data.toList := by
        intro e
        injection e with e
        apply h
        rw [ByteArray.toList_eq, ByteArray.toList_eq, e]
        simp
      rw [if_neg h, atKey_put_other hne, mapTo_at ns vs q k]

/-- The value v is a slice that holds the steps xs. -/
def RowIs (w : World) (v : Value) (xs : List Stp) : Prop := ∃ ad cap, v = .slice ad xs.length cap ∧ StepsAt w ad xs
theorem RowIs.below {w w' : World} {v : Value} {xs : List Stp} (h : RowIs w v xs) (hb : Below w.heap.size w w') : RowIs w' v xs := by
  obtain ⟨ad, cap, e, hx⟩ := h
  exact ⟨ad, cap, e, hx.below hb⟩

/-- Block bm is the plan's map: n pairs have been put in. -/
def PlanMap (w : World) (bm n : Nat) (ns : List ByteArray) (vs : List Value) (L : List Lst) : Prop :=
  (∃ k, w.ownsMap Try.prog 9 asIs bm k (mapTo ns vs n) ∧ k ≤ n) ∧ vs.length = n ∧ ∀ i, i < n → RowIs w (vs.getD i nilS) (L.getD i Lst.none).xs
theorem PlanMap.below {w w' : World} {bm n : Nat} {ns : List ByteArray} {vs : List Value} {L : List Lst} (h : PlanMap w bm n ns vs L) (hb : Below w.heap.size w w') : PlanMap w' bm n ns vs L := by
  obtain ⟨⟨k, hm, hk⟩, hl, hr⟩ := h
  have hlt := hm.lt
  obtain ⟨es, clock, hh, r⟩ := hm
  exact ⟨⟨k, ⟨es, clock, (hb.block bm hlt).trans hh, r⟩, hk⟩, hl, fun i hi => (hr i hi).below hb⟩
/-- Block bp is a plan. -/
def PlanAt (w : World) (bp n : Nat) (ns : List ByteArray) (L : List Lst) : Prop :=
  ∃ bm vs, w.cell? ⟨bp, 1, none⟩ = some (.map (some bm)) ∧ PlanMap w bm n ns vs L
theorem PlanAt.below {w w' : World} {bp n : Nat} {ns : List ByteArray} {L : List Lst} (h : PlanAt w bp n ns L) (hb : Below w.heap.size w w') : PlanAt w' bp n ns L := by
  obtain ⟨bm, vs, hc, hm⟩ := h
  exact ⟨bm, vs, cell_below hc hb, hm.below hb⟩
theorem PlanAt.drewN {w : World} {bp n : Nat} {ns : List ByteArray} {L : List Lst} (h : PlanAt w bp n ns L) (k : Nat) : PlanAt (w.drewN k) bp n ns L := h.below (below_drewN (Below.refl _ _) k)

/-- What the plan's map hands back for q. -/
theorem PlanMap.look {w : World} {bm n : Nat} {ns : List ByteArray} {vs : List Value} {L : List Lst} (h : PlanMap w bm n ns vs L) {q : ByteArray} (hq : q.size ≤ maxLen) :
    ∃ ad cap xs, (Instr.lookup 41 (.map (some bm)) (.string q) false).run Try.prog w = .ok (.slice ad xs.length cap) w ∧ StepsAt w ad xs ∧ toks xs = wanted ns L n q ∧ xs = (if lastTo ns q n < 0 then [] else (L.getD (lastTo ns q n).toNat Lst.none).xs) := by
  obtain ⟨⟨k, hm, _⟩, hl, hr⟩ := h
  obtain ⟨v, ps, hrun, hv⟩ := hm.lookup law9 Try.underlying41 (zero42 w) (zd := .held nilS) (zp := []) rfl (keyOf_string_mk Try.underlying9 hq)
  rw [mapTo_at] at hv
  simp only [asIs, Option.some.injEq, Prod.mk.injEq, DataW.held.injEq] at hv
  have hlt := lastTo_lt ns q n
  by_cases hz : lastTo ns q n < 0
  · rw [if_pos hz] at hv
    refine ⟨none, 0, [], by rw [hrun, hv.1]; rfl, fun j hj => by simp at hj, ?_, by rw [if_pos hz]⟩
    unfold wanted
    rw [if_pos hz]; rfl
  · rw [if_neg hz] at hv
    obtain ⟨ad, cap, e, hx⟩ := hr (lastTo ns q n).toNat (by omega)
    refine ⟨ad, cap, _, by rw [hrun, hv.1, e], hx, ?_, by rw [if_neg hz]⟩
    unfold wanted
    rw [if_neg hz]

/-- The one-cell block that lies behind another new block. -/
theorem cell_one_two (w : World) (o : Obj) (x : Value) (t : TypeId) : ∀ j u, [x][j]? = some u → ((w.alloc o).alloc (.cells #[x] t)).cell? ((⟨w.heap.size + 1, 0, none⟩ : Addr).add j) = some u := by
  have h := cell_one_new (w.alloc o) x t
  simpa using h

theorem makestep_any (t f ra bd : ByteArray) (st : Int) (w : World) :
    Calls Try.prog 18 #[.string t, .string f, .int .i64 st, .string ra, .string bd] w fun e w' => e = .returned (.agg #[.string t, .string f, .int .i64 st, .string ra, .string bd]) ∧ Below w.heap.size w w' := by
  go_enter Try.func18, Try.ntmps18
  go_wp2
  exact bodyPost_ret (v := .agg #[.string t, .string f, .int .i64 st, .string ra, .string bd]) (by simp [results, Try.results18, go_sem]) rfl ⟨rfl, (Below.refl _ _).alloc (Nat.le_refl _) _⟩

theorem newplan_any (a : Option Addr) (n c bm : Nat) (w : World) :
    Calls Try.prog 19 #[.slice a n c, .map (some bm)] w fun e w' => e = .returned (.pointer (some ⟨w.heap.size, 0, none⟩)) ∧ w' = w.alloc (.cells #[.slice a n c, .map (some bm)] 49) := by
  go_enter Try.func19, Try.ntmps19
  go_wp2
  go_ret
  exact ⟨rfl, rfl⟩

set_option maxRecDepth 100000 in
set_option maxHeartbeats 1000000 in
theorem steps_any (bp n : Nat) (ns : List ByteArray) (L : List Lst) (q : ByteArray) (w : World) (hq : q.size ≤ maxLen) (hp : PlanAt w bp n ns L) (f2 : ListsFit 1048577 L) :
    Calls Try.prog 10 #[.pointer (some ⟨bp, 0, none⟩), .string q] w fun e w' => ∃ v, e = .returned v ∧ Own w.heap.size w' v (wanted ns L n q) ∧ (wanted ns L n q = [] → v = .slice none 0 0) ∧ Below w.heap.size w w' := by
  obtain ⟨i0, hi, hz0, hz1, hz2⟩ := info_parts Try.info9
  obtain ⟨bm, vs, hc, hm⟩ := hp
  obtain ⟨ad, cap, xs, hlook, hx, HT0, hxs⟩ := hm.look hq
  have hxl : xs.length ≤ 1048577 := by
    rw [hxs]
    split
    · simp
    · by_cases h : (lastTo ns q n).toNat < L.length
      · exact (f2.2 _ (lst_mem h)).1
      · simp [List.getD, List.getElem?_eq_none (show L.length ≤ (lastTo ns q n).toNat by omega), Lst.none]
  have HW : Hid (toks xs = wanted ns L n q) := HT0
  clear HT0 hxs hm
  go_enter Try.func10, Try.ntmps10
  go_wp2
  go_loopw [5, 15] (fun v i wr => ∃ k : Nat, k ≤ xs.length ∧ i = .int .i64 (k : Int) ∧ wr.ownsRow w.heap.size 9 1 v k ((toks (xs.take k)).map Value.string) ∧ (k = 0 → v = .slice none 0 0) ∧ Below w.heap.size w wr) (fun _ i _ => xs.length - (intOf i).toNat)
  case atStart => exact ⟨0, Nat.zero_le _, rfl, World.ownsRow_nil _ _ _ _, fun _ => rfl, Below.refl _ _⟩
  case round =>
    clear hlook hc
    obtain ⟨k, hk, rfl, hown, hnil, hbw⟩ := hrel
    by_cases hkl : k < xs.length
    · obtain ⟨bx, ox, rfl, hsx⟩ := hx k hkl
      have HT : Hid (toks (xs.take (k + 1)) = toks (xs.take k) ++ [(xs.getD k Stp.none).tok]) := toks_snoc hkl
      have hd := hsx.below hbw
      generalize xs.getD k Stp.none = sx at *
      obtain ⟨d0, d1, d2, d3, d4⟩ := hd
      have hbz := hbw.size
      have hlt := hown.lt
      clear hsx hnil
      go_wp2_with (first
        | (at_builtin; refine wpList_append_own _ rfl _ _ 22 rfl w.heap.size 9 i0 (.string ByteArray.empty) 1 16 Try.underlying22 hi hz0 hz1 hz2 rfl (by decide) _ _ _ rfl ((hown.alloc _).alloc _) ⟨wr.heap.size + 1, 0, none⟩ 1 1 [.string sx.tok] rfl rfl ?c1 (str_oneCell _) ?c3 ?c4 ?c5 ?_)
        | go_in)
      case c1 => exact cell_one_two _ _ _ _
      case c3 => unfold maxLen; omega
      case c4 => omega
      case c5 => simp; omega
      intro v' w2 hown' hgrow hnl
      go_wp2
      go_roundw
      case rel =>
        refine ⟨k + 1, by omega, by go_num, ?_, fun h => by omega, ?_⟩
        · rw [HT.out, List.map_append]
          exact hown'
        · exact ((hbw.alloc hbz _).alloc (by simp; omega) _).grown hgrow (by simp; omega) (fun j hj => (hlt j hj).1)
      case measure => simp [intOf]; omega
    · have e : k = xs.length := by omega
      rw [e, List.take_length] at hown
      have HN : Hid (xs.length = 0 → k = 0) := fun h => by omega
      clear e
      go_wp2
      go_ret
      refine ⟨_, rfl, ?_, fun h => ?_, hbw⟩
      · rw [← HW.out]
        unfold Own
        rw [toks_len]
        exact hown
      · refine hnil (HN.out ?_)
        rw [← HW.out] at h
        have := congrArg List.length h
        rwa [toks_len] at this
end Go.Proofs.Qxb6619706a

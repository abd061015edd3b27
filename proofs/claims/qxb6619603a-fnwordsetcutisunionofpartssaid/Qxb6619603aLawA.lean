/-
  WALK: FnWordSetCutIsUnionOfParts.
-/
import Derived.Test.Qxb6619603aHead
namespace Go.Proofs.Qxb6619603a
open Go.RowKit

theorem mem_getD' {ss : List ByteArray} {k : Nat} (h : k < ss.length) : ss.getD k ByteArray.empty ∈ ss := by
  simp [List.getD, h]
theorem StrsAt.take {w : World} {ad : Option Addr} {ss : List ByteArray} (h : StrsAt w ad ss) (k : Nat) : StrsAt w ad (ss.take k) := by
  intro j hj
  simp at hj
  obtain ⟨b, off, e, hc⟩ := h j (by omega)
  refine ⟨b, off, e, hc.trans ?_⟩
  simp [List.getD, show j < k by omega]
theorem StrsAt.drop {w : World} {ad : Option Addr} {ss : List ByteArray} (h : StrsAt w ad ss) (k cap : Nat) (hc : ss.length ≤ cap) : StrsAt w (if cap = k then ad else ad.map (·.add k)) (ss.drop k) := by
  intro j hj
  simp at hj
  obtain ⟨b, off, e, hx⟩ := h (k + j) (by omega)
  rw [if_neg (by omega)]
  refine ⟨b, off + k, ?_, ?_⟩
  · rw [e]
    simp [Addr.add]
  · rw [show off + k + j = off + (k + j) by omega]
    refine hx.trans ?_
    simp [List.getD]

theorem veil {S : Prop} (h : S) : Hid S := h
theorem StrsAt.drewN {w : World} {ad : Option Addr} {ss : List ByteArray} (h : StrsAt w ad ss) (n : Nat) : StrsAt (w.drewN n) ad ss := h
theorem SetAt.drewN {w : World} {b : Nat} {ss : List ByteArray} (h : SetAt w b ss) (n : Nat) : SetAt (w.drewN n) b ss := h
theorem cut_from (ad : Option Addr) (n cap q : Nat) (hq : q ≤ n) (w : World) :
    (Instr.slice 22 (.slice ad n cap) (some (.int .i64 (q : Int))) none none).run Try.prog w = .ok (.slice (if cap = q then ad else ad.map (·.add q)) (n - q) (cap - q)) w := by
  obtain ⟨i0, hi, hz0, hz1, hz2⟩ := info_parts Try.info9
  simp [Instr.slice, Instr.sliceBounds, run_underlying Try.underlying22, sizeOf, typeInfo, hi, hz1, go_sem, hq]

set_option maxRecDepth 100000 in
set_option maxHeartbeats 1000000 in
theorem walkA (ad : Option Addr) (cap : Nat) (ss : List ByteArray) (k : Int) (p : ByteArray) (w : World) (hm : ss.length ≤ maxLen) (hcap : ss.length ≤ cap) (hsz : ∀ s ∈ ss, s.size ≤ maxLen) (hp : p.size ≤ maxLen) (hs : StrsAt w ad ss) :
    Calls Try.prog 3 #[.slice ad ss.length cap, .int .i64 k, .string p] w fun e w' => e = .returned (.bool true) ∧ Below w.heap.size w w' := by
  have HB : Hid (Below w.heap.size w w) := Below.refl _ _
  go_enter Try.func3, Try.ntmps3
  go_wp2_with fail
  refine (bytes5 ad cap ss k p _ hm hsz hp hs).mono ?_
  rintro e w' ⟨r, rfl, hr, rfl⟩
  cases r
  · go_wp2
    go_ret
    exact ⟨rfl, HB.out⟩
  · have hsm := hr rfl
    obtain ⟨h1, h2, h3⟩ := hsm
    clear hr
    obtain ⟨n, hln⟩ : ∃ n, n = ss.length := ⟨_, rfl⟩
    rw [← hln] at h1 hcap hm ⊢
    have HL : Hid (ss.length = n) := hln.symm
    clear hln
    have hmk := make_strs n (by omega)
    have hnn := @run_neq_slice_nil_any Try.prog
    go_upto_if 24 with fail
    go_cut [0] (fun v0 wc => ∃ ad' cap', v0 = .slice ad' n cap' ∧ StrsAt wc ad' ss ∧ n ≤ cap' ∧ Below w'.heap.size w' wc)
    case first =>
      cases ad with
      | none =>
        go_wp2
        go_meet
        case rel => exact ⟨none, cap, rfl, hs, hcap, HB.out⟩
      | some a =>
        have hcp := copy_strs w' a cap n ss HL.out hs
        go_wp2
        go_meet
        case rel => exact ⟨_, _, rfl, (copied_row w' ss).strs, Nat.le_refl _, copied_below w' ss⟩
    clear hs hcap HB hnn
    obtain ⟨ad', cap', rfl, hs, hcap, hb0⟩ := hcut
    go_wp2
    go_loop [8, 9] (fun z i => ∃ k t : Nat, k ≤ n ∧ t ≤ 1048576 ∧ i = .int .i64 k ∧ z = .int .i64 t) (fun _ i => n - (intOf i).toNat)
    case atStart => exact ⟨0, p.size, Nat.zero_le _, h3, rfl, rfl⟩
    case round =>
      obtain ⟨j, t, hk, ht, rfl, rfl⟩ := hrel
      by_cases hlt : j < n
      · obtain ⟨b, off, rfl, hc⟩ := hs j (by rw [HL.out]; exact hlt)
        obtain ⟨s, hs1⟩ : ∃ s, s = ss.getD j ByteArray.empty := ⟨_, rfl⟩
        rw [← hs1] at hc
        have hss : s.size ≤ 1048576 := h2 s (by rw [hs1]; exact mem_getD' (by rw [HL.out]; exact hlt))
        clear hs1
        go_wp2
        · go_ret
          exact ⟨rfl, hb0⟩
        · go_round
          case rel => exact ⟨j + 1, t + 16 + s.size, by omega, by omega, by go_num, by go_num⟩
          case measure => simp [intOf]; omega
      · clear hmk
        by_cases hk0 : k < 0
        · go_wp2
          go_ret
          exact ⟨rfl, hb0⟩
        · by_cases hkn : (n : Int) < k
          · go_wp2
            go_ret
            exact ⟨rfl, hb0⟩
          · obtain ⟨q, rfl⟩ := Int.eq_ofNat_of_zero_le (show 0 ≤ k by omega)
            have hqn : q ≤ n := by omega
            have hqc : (q : Int) ≤ cap' := by omega
            have hlw := hs.take q
            have hrw := hs.drop q cap' (by rw [HL.out]; exact hcap)
            have hcut := cut_from ad' n cap' q hqn
            have HLw : Hid ((ss.take q).length = q) := by show _ = _; rw [List.length_take, HL.out]; omega
            have HRw : Hid ((ss.drop q).length = n - q) := by show _ = _; rw [List.length_drop, HL.out]
            generalize (if cap' = q then ad' else ad'.map (·.add q)) = adR at hrw hcut
            generalize cap' - q = capR at hcut
            obtain ⟨lw, hlwe⟩ : ∃ lw, lw = ss.take q := ⟨_, rfl⟩
            obtain ⟨rw', hrwe⟩ : ∃ rw', rw' = ss.drop q := ⟨_, rfl⟩
            have hwhole : Hid (ss = lw ++ rw') := by show _ = _; rw [hlwe, hrwe, List.take_append_drop]
            have hszl : ∀ s ∈ lw, s.size ≤ maxLen := fun s h => hsz s (by rw [hlwe] at h; exact List.mem_of_mem_take h)
            have hszr : ∀ s ∈ rw', s.size ≤ maxLen := fun s h => hsz s (by rw [hrwe] at h; exact List.mem_of_mem_drop h)
            have HG : Hid (∀ j, j < n → (j < q → ss.getD j ByteArray.empty ∈ lw) ∧ (q ≤ j → ss.getD j ByteArray.empty ∈ rw')) := by
              intro j hj
              have hjs : j < ss.length := by rw [HL.out]; exact hj
              refine ⟨fun h => ?_, fun h => ?_⟩
              · rw [hlwe]
                simp [List.getD, hjs]
                exact List.mem_take_iff_getElem.2 ⟨j, by omega, rfl⟩
              · rw [hrwe]
                simp [List.getD, hjs]
                exact List.mem_drop_iff_getElem.2 ⟨j - q, by omega, by simp [show q + (j - q) = j by omega]⟩
            rw [← hlwe] at hlw HLw
            rw [← hrwe] at hrw HRw
            clear hlwe hrwe
            have hmn := fun w => @run_eql_map_nil Try.prog w 24 9 4
            go_wp2_with fail
            refine (set_at _ _ _ ss _ HL (by omega) hs hsz).mono ?_
            rintro e w1 ⟨rfl, hA1, hb1⟩
            have hlw1 := hlw.below hb1
            go_wp2_with fail
            refine (set_at _ _ _ lw _ HLw (by omega) hlw1 hszl).mono ?_
            rintro e w2 ⟨rfl, hB2, hb2⟩
            have hA2 := hA1.below hb2
            have hrw2 := (hrw.below hb1).below hb2
            go_wp2_with fail
            refine (set_at _ _ _ rw' _ HRw (by omega) hrw2 hszr).mono ?_
            rintro e w3 ⟨rfl, hC3, hb3⟩
            have hA3 := hA2.below hb3
            have hB3 := hB2.below hb3
            have hlw3 := (hlw1.below hb2).below hb3
            have hrw3 := hrw2.below hb3
            have hs3 := ((hs.below hb1).below hb2).below hb3
            have hbelow : Below w'.heap.size w' w3 := by
              have z0 := hb0.size
              have z1 := hb1.size
              have z2 := hb2.size
              exact (((hb0.trans (hb1.mono (by omega))).trans (hb2.mono (by omega))).trans (hb3.mono (by omega)))
            clear hA1 hA2 hB2 hlw1 hlw hrw hrw2 hs hb0 hb1 hb2 hb3 hcut
            go_wp2
            go_loop [15] (fun i => ∃ j : Nat, j ≤ n ∧ i = .int .i64 j) (fun i => n - (intOf i).toNat)
            case atStart => exact ⟨0, Nat.zero_le _, rfl⟩
            case round =>
              clear hlt hk ht
              obtain ⟨j, hj, rfl⟩ := hrel
              by_cases hjk : j < n
              · obtain ⟨b, off, rfl, hc⟩ := hs3 j (by rw [HL.out]; exact hjk)
                obtain ⟨s, hs1⟩ : ∃ s, s = ss.getD j ByteArray.empty := ⟨_, rfl⟩
                have hg := HG.out j hjk
                rw [← hs1] at hc hg
                have hmem : s ∈ ss := by rw [hs1]; exact mem_getD' (by rw [HL.out]; exact hjk)
                clear hs1
                have hkA := hA3.look (hsz s hmem)
                rw [hasB_iff.2 hmem] at hkA
                by_cases hjq : j < q
                · have hkB := hB3.look (hsz s hmem)
                  rw [hasB_iff.2 (hg.1 hjq)] at hkB
                  clear hg
                  go_wp2
                  go_round
                  case rel => exact ⟨j + 1, by omega, by go_num⟩
                  case measure => simp [intOf]; omega
                · have hkC := hC3.look (hsz s hmem)
                  rw [hasB_iff.2 (hg.2 (by omega))] at hkC
                  clear hg
                  go_wp2
                  go_round
                  case rel => exact ⟨j + 1, by omega, by go_num⟩
                  case measure => simp [intOf]; omega
              · go_wp2_with fail
                refine (has_at _ _ _ ss p _ HL h1 hs3).mono ?_
                rintro e w4 ⟨rfl, rfl⟩
                have hkA := hA3.look hp
                have hkB := hB3.look hp
                have hkC := hC3.look hp
                have hab : hasB ss p = (hasB lw p || hasB rw' p) := by
                  rw [hwhole.out, Bool.eq_iff_iff, Bool.or_eq_true, hasB_iff, hasB_iff, hasB_iff, List.mem_append]
                rw [hab] at hkA ⊢
                have hkB' : ∀ m, (Instr.lookup 24 (.map (some w1.heap.size)) (.string p) false).run Try.prog (w4.drewN m) = .ok (.bool (hasB lw p)) (w4.drewN m) := fun m => (hB3.drewN m).look hp
                have cL : ∀ m, Calls Try.prog 7 #[.slice ad' q cap', .string p] (w4.drewN m) fun e w' => e = .returned (.bool (hasB lw p)) ∧ w' = w4.drewN m := fun m => has_at ad' cap' q lw p _ HLw (by omega) (hlw3.drewN m)
                have HcL := veil cL
                clear cL hkB hkC hab
                go_wp2
                go_quiet ((go_at_call 7; exact Calls.quiet_of_same (HcL.out _)))
                go_wp2
                have hA5 := hA3.drewN nq
                have hB5 := hB3.drewN nq
                have hC5 := hC3.drewN nq
                have hs5 := hs3.drewN nq
                have hl5 := hlw3.drewN nq
                have hr5 := hrw3.drewN nq
                have hb5 := below_drewN hbelow nq
                clear hA3 hB3 hC3 hs3 hlw3 hrw3 hbelow HcL hkB' hkA
                generalize w4.drewN nq = w5 at *
                have hkC' : ∀ m, (Instr.lookup 24 (.map (some w2.heap.size)) (.string p) false).run Try.prog (w5.drewN m) = .ok (.bool (hasB rw' p)) (w5.drewN m) := fun m => (hC5.drewN m).look hp
                have cR : ∀ m, Calls Try.prog 7 #[.slice adR (n - q) capR, .string p] (w5.drewN m) fun e w' => e = .returned (.bool (hasB rw' p)) ∧ w' = w5.drewN m := fun m => has_at adR capR (n - q) rw' p _ HRw (by omega) (hr5.drewN m)
                have HcR := veil cR
                clear cR
                go_quiet ((go_at_call 7; exact Calls.quiet_of_same (HcR.out _)))
                have hA6 := hA5.drewN nq
                have hB6 := hB5.drewN nq
                have hC6 := hC5.drewN nq
                have hs6 := hs5.drewN nq
                have hl6 := hl5.drewN nq
                have hr6 := hr5.drewN nq
                have hb6 := below_drewN hb5 nq
                clear hA5 hB5 hC5 hs5 hl5 hr5 hb5 HcR hkC'
                generalize w5.drewN nq = w6 at *
                have hkA := hA6.look hp
                have hkB := hB6.look hp
                have hkC := hC6.look hp
                have hab : hasB ss p = (hasB lw p || hasB rw' p) := by
                  rw [hwhole.out, Bool.eq_iff_iff, Bool.or_eq_true, hasB_iff, hasB_iff, hasB_iff, List.mem_append]
                rw [hab] at hkA
                clear hab
                have hlA := hA6.len
                have hd1 : dcount lw ≤ dcount ss := by rw [hwhole.out]; exact dcount_left _ _
                have hd2 : dcount rw' ≤ dcount ss := by rw [hwhole.out]; exact dcount_right _ _
                have hd3 : dcount ss ≤ dcount lw + dcount rw' := by rw [hwhole.out]; exact dcount_append_le _ _
                have hd4 : dcount ss ≤ n := by rw [← HL.out]; exact dcount_length _
                have HcA : Hid (Calls Try.prog 8 #[.slice ad' n cap'] w6 fun e w' => e = .returned (.int .i64 (dcount ss)) ∧ Below w6.heap.size w6 w') := count_at ad' cap' n ss w6 HL (by omega) hs6
                generalize hasB lw p = bl at *
                generalize hasB rw' p = br at *
                clear HG hmn hjk hj hk0 hkn hs6
                generalize hdA : dcount ss = dA at *
                have HdA := veil hdA
                clear hdA
                cases bl <;> cases br
                all_goals
                  go_wp2_with fail
                  refine HcA.out.mono ?_
                  rintro e w7 ⟨rfl, hb7⟩
                  have hA7 := hA6.below hb7
                  have hB7 := hB6.below hb7
                  have hC7 := hC6.below hb7
                  have hl7 := hl6.below hb7
                  have hr7 := hr6.below hb7
                  have z6 := hb6.size
                  have hb7' := hb6.trans (hb7.mono z6)
                  have hlB := hB7.len
                  go_wp2_with fail
                  refine (count_at _ _ _ lw _ HLw (by omega) hl7).mono ?_
                  rintro e w8 ⟨rfl, hb8⟩
                  have hA8 := hA7.below hb8
                  have hB8 := hB7.below hb8
                  have hC8 := hC7.below hb8
                  have hr8 := hr7.below hb8
                  have z7 := hb7'.size
                  have hb8' := hb7'.trans (hb8.mono z7)
                  have hlC := hC8.len
                  go_wp2_with fail
                  refine (count_at _ _ _ rw' _ HRw (by omega) hr8).mono ?_
                  rintro e w9 ⟨rfl, hb9⟩
                  have z8 := hb8'.size
                  have hb9' := hb8'.trans (hb9.mono z8)
                  have hlA9 := (hA8.below hb9).len
                  have hlB9 := (hB8.below hb9).len
                  have hlC9 := (hC8.below hb9).len
                  clear hA6 hB6 hC6 hl6 hr6 hb6 hlA HcA hkA hkB hkC hb7 hA7 hB7 hC7 hl7 hr7 hb7' hlB hb8 hA8 hB8 hC8 hr8 hb8' hlC hb9
                  rw [show dcount ss = dA from HdA.out] at hlA9
                  generalize dcount lw = dL at *
                  generalize dcount rw' = dR at *
                  go_wp2
                  go_ret
                  exact ⟨rfl, hb9'⟩
end Go.Proofs.Qxb6619603a

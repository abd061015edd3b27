/-
  WALK: FnWordSetIgnoresOrderAndRepeats.
-/
import Derived.Test.Qxb6619603aHead
namespace Go.Proofs.Qxb6619603a
open Go.RowKit

theorem mem_getD {ss : List ByteArray} {k : Nat} (h : k < ss.length) : ss.getD k ByteArray.empty ∈ ss := by
  simp [List.getD, h]

/-- Behind k rounds of the loop that fills 'doubled'. -/
def DInv (ss D : List ByteArray) (n k : Nat) : Prop := D.length = 2 * n ∧ D.take k = ss.reverse.take k ∧ (D.drop n).take k = ss.take k
theorem dinv_step {ss D : List ByteArray} {n k : Nat} (hl : ss.length = n) (h : DInv ss D n k) (hk : k < n) : DInv ss ((D.set k (ss.getD (n - 1 - k) e0)).set (n + k) (ss.getD k e0)) n (k + 1) := by
  obtain ⟨h1, h2, h3⟩ := h
  refine ⟨by simpa using h1, ?_, ?_⟩
  · rw [List.take_set_of_le (by omega), take_set_snoc (by omega), h2, take_snoc' (by simp; omega)]
    congr 2
    simp only [List.getD]
    rw [List.getElem?_reverse (by omega), hl]
  · rw [List.drop_set, if_neg (by omega), List.drop_set_of_lt (by omega), show n + k - n = k by omega, take_set_snoc (by simp; omega), h3, take_snoc' (by omega)]
theorem dinv_end {ss D : List ByteArray} {n : Nat} (hl : ss.length = n) (h : DInv ss D n n) : D = ss.reverse ++ ss := by
  obtain ⟨h1, h2, h3⟩ := h
  rw [List.take_of_length_le (l := ss.reverse) (by simp; omega)] at h2
  rw [List.take_of_length_le (l := ss) (by omega), List.take_of_length_le (by simp; omega)] at h3
  rw [← h2, ← h3, List.take_append_drop]

set_option maxRecDepth 100000 in
set_option maxHeartbeats 1000000 in
theorem walkB (ad : Option Addr) (cap : Nat) (ss : List ByteArray) (p : ByteArray) (w : World) (hm : ss.length ≤ maxLen) (hcap : ss.length ≤ cap) (hsz : ∀ s ∈ ss, s.size ≤ maxLen) (hp : p.size ≤ maxLen) (hs : StrsAt w ad ss) :
    Calls Try.prog 4 #[.slice ad ss.length cap, .string p] w fun e w' => e = .returned (.bool true) ∧ Below w.heap.size w w' := by
  have HB : Hid (Below w.heap.size w w) := Below.refl _ _
  go_enter Try.func4, Try.ntmps4
  go_wp2_with fail
  refine (bytes9 ad cap ss p _ hm hsz hp hs).mono ?_
  rintro e w' ⟨r, rfl, hr, rfl⟩
  cases r
  · go_wp2
    go_ret
    exact ⟨rfl, HB.out⟩
  · have hsm := hr rfl
    obtain ⟨h1, h2, h3⟩ := hsm
    clear hr
    obtain ⟨n, hln⟩ : ∃ n, n = ss.length := ⟨_, rfl⟩
    rw [← hln] at h1 hcap hm ⊢
    have HL : Hid (ss.length = n) := hln.symm
    clear hln
    have hmk := make_strs n (by omega)
    have hnn := @run_neq_slice_nil_any Try.prog
    go_upto_if 22 with fail
    go_cut [0] (fun v0 wc => ∃ ad' cap', v0 = .slice ad' n cap' ∧ StrsAt wc ad' ss ∧ n ≤ cap' ∧ Below w'.heap.size w' wc)
    case first =>
      cases ad with
      | none =>
        go_wp2
        go_meet
        case rel => exact ⟨none, cap, rfl, hs, hcap, HB.out⟩
      | some a =>
        have hcp := copy_strs w' a cap n ss HL.out hs
        go_wp2
        go_meet
        case rel => exact ⟨_, _, rfl, (copied_row w' ss).strs, Nat.le_refl _, copied_below w' ss⟩
    clear hs hcap HB hnn
    obtain ⟨ad', cap', rfl, hs, hcap, hb0⟩ := hcut
    go_wp2
    go_loop [6, 7] (fun z i => ∃ k t : Nat, k ≤ n ∧ t ≤ 1048576 ∧ i = .int .i64 k ∧ z = .int .i64 t) (fun _ i => n - (intOf i).toNat)
    case atStart => exact ⟨0, p.size, Nat.zero_le _, h3, rfl, rfl⟩
    case round =>
      obtain ⟨k, t, hk, ht, rfl, rfl⟩ := hrel
      by_cases hlt : k < n
      · obtain ⟨b, off, rfl, hc⟩ := hs k (by rw [HL.out]; exact hlt)
        obtain ⟨s, hs1⟩ : ∃ s, s = ss.getD k ByteArray.empty := ⟨_, rfl⟩
        rw [← hs1] at hc
        have hss : s.size ≤ 1048576 := h2 s (by rw [hs1]; exact mem_getD (by rw [HL.out]; exact hlt))
        clear hs1
        go_wp2
        · go_ret
          exact ⟨rfl, hb0⟩
        · go_round
          case rel => exact ⟨k + 1, t + 16 + s.size, by omega, by omega, by go_num, by go_num⟩
          case measure => simp [intOf]; omega
      · have hmk2 : ∀ w : World, (Instr.makeSlice 22 (.int .i64 (2 * (n : Int))) (.int .i64 (2 * (n : Int)))).run Try.prog w = .ok (.slice (some ⟨w.heap.size, 0, none⟩) (2 * n) (2 * n)) (w.alloc (.cells (blank (2 * n)) 9)) := by
          intro w
          have := make_strs (2 * n) (by omega) w
          rwa [show ((2 * n : Nat) : Int) = 2 * (n : Int) by omega] at this
        clear hmk
        have hsz2 : ∀ s ∈ ss.reverse ++ ss, s.size ≤ maxLen := fun s h => hsz s (by simpa using h)
        go_wp2
        go_loopw [10] (fun i wr => ∃ k D, k ≤ n ∧ i = .int .i64 (k : Nat) ∧ DInv ss D n k ∧ RowS wr wc.heap.size D ∧ Below wc.heap.size wc wr) (fun i _ => n - (intOf i).toNat)
        case atStart => exact ⟨0, _, Nat.zero_le _, rfl, ⟨List.length_replicate, by simp, by simp⟩, blank_row (2 * n) wc, (Below.refl _ _).alloc (Nat.le_refl _) _⟩
        case round =>
          clear hlt hk ht
          obtain ⟨k, D, hk, rfl, hinv, hrow, hbx⟩ := hrel
          by_cases hlt : k < n
          · obtain ⟨q, hq⟩ : ∃ q, q = n - 1 - k := ⟨_, rfl⟩
            have hqn : q < n := by omega
            have hqI : (n : Int) - 1 - (k : Int) = (q : Int) := by omega
            obtain ⟨b, off, rfl, hc⟩ := hs k (by rw [HL.out]; exact hlt)
            have hc1 := (hbx.cell (p := ⟨b, off + k, none⟩) (lt_of_cell hc)).trans hc
            have hbl : b < wc.heap.size := lt_of_cell hc
            have hbn : b ≠ wc.heap.size := by omega
            obtain ⟨b', off', he, hd⟩ := hs q (by rw [HL.out]; exact hqn)
            injection he with he
            injection he with he1 he2
            subst he1 he2
            have hd1 := (hbx.cell (p := ⟨b, off + q, none⟩) (lt_of_cell hd)).trans hd
            clear hc hd
            have hR := dinv_step HL.out hinv hlt
            rw [← hq] at hR
            have hDl := hinv.1
            have hf1 := hrow.free k
            have hf2 := hrow.free (n + k)
            have ho1 := hrow.cell (k := k) (by omega)
            have ho2 := hrow.cell (k := n + k) (by omega)
            clear hDl hinv hq
            obtain ⟨s, hs1⟩ : ∃ s, s = ss.getD k ByteArray.empty := ⟨_, rfl⟩
            obtain ⟨t, ht1⟩ : ∃ t, t = ss.getD q ByteArray.empty := ⟨_, rfl⟩
            rw [← hs1] at hc1 hR
            rw [← ht1] at hd1 hR
            clear hs1 ht1
            go_wp2
            go_roundw
            case rel => exact ⟨k + 1, _, by omega, by go_num, hR, (hrow.set k t).set (n + k) s, (hbx.setCell (Nat.le_refl _) _).setCell (Nat.le_refl _) _⟩
            case measure => simp [intOf]; omega
          · have e : k = n := by omega
            subst e
            have hD := dinv_end HL.out hinv
            have HD : Hid (D.length = 2 * k) := hinv.1
            have hDm : ∀ x, x ∈ D ↔ x ∈ ss := by intro x; rw [hD]; simp
            rw [← hD] at hsz2
            have HC : Hid (dcount D = dcount ss) := dcount_congr hDm
            have HH : Hid (∀ x, hasB D x = hasB ss x) := fun x => hasB_congr (hDm x)
            have hs2 := hs.below hbx
            have hDs := hrow.strs
            have hbz := hbx.size
            clear hinv hD hDm hmk2
            have hmn := fun w => @run_eql_map_nil Try.prog w 24 9 4
            go_wp2_with fail
            refine (set_at ad' cap' k ss _ HL (by omega) hs2 hsz).mono ?_
            rintro e w1 ⟨rfl, hA, hb1⟩
            have hDs1 := hDs.below hb1
            go_wp2_with fail
            refine (set_at _ _ _ D _ HD (by omega) hDs1 hsz2).mono ?_
            rintro e w2 ⟨rfl, hB, hb2⟩
            have hA2 := hA.below hb2
            have hs3 := (hs2.below hb1).below hb2
            go_wp2_with fail
            refine (count_at _ _ _ ss _ HL (by omega) hs3).mono ?_
            rintro e w3 ⟨rfl, hb3⟩
            have hA3 := hA2.below hb3
            have hB3 := hB.below hb3
            have hs4 := hs3.below hb3
            have hlA := hA3.len
            have hlB := hB3.len
            rw [HC.out] at hlB
            have hz1 := hb1.size
            have hz2 := hb2.size
            have hbelow : Hid (Below w'.heap.size w' w3) := by
              have z0 := hb0.size
              have z1 := hbx.size
              exact ((((hb0.trans (hbx.mono z0)).trans (hb1.mono (by omega))).trans (hb2.mono (by omega))).trans (hb3.mono (by have := hb2.size; omega)))
            obtain ⟨d, hd⟩ : ∃ d, d = dcount ss := ⟨_, rfl⟩
            rw [← hd] at hlA hlB ⊢
            clear hd hA hb1 hDs hDs1 hs2 hB hb2 hA2 hs3 hb3 hs hb0 hrow hbx hz1 hz2 hbz
            go_wp2
            go_loop [14] (fun i => ∃ j : Nat, j ≤ k ∧ i = .int .i64 j) (fun i => k - (intOf i).toNat)
            case atStart => exact ⟨0, Nat.zero_le _, rfl⟩
            case round =>
              obtain ⟨j, hj, rfl⟩ := hrel
              by_cases hjk : j < k
              · obtain ⟨b, off, rfl, hc⟩ := hs4 j (by rw [HL.out]; exact hjk)
                obtain ⟨s, hs1⟩ : ∃ s, s = ss.getD j ByteArray.empty := ⟨_, rfl⟩
                rw [← hs1] at hc
                have hmem : s ∈ ss := by rw [hs1]; exact mem_getD (by rw [HL.out]; exact hjk)
                clear hs1
                have hkA := hA3.look (hsz s hmem)
                have hkB := hB3.look (hsz s hmem)
                rw [HH.out s] at hkB
                rw [hasB_iff.2 hmem] at hkA hkB
                go_wp2
                go_round
                case rel => exact ⟨j + 1, by omega, by go_num⟩
                case measure => simp [intOf]; omega
              · go_wp2_with fail
                refine (has_at _ _ _ ss p _ HL h1 hs4).mono ?_
                rintro e w4 ⟨rfl, rfl⟩
                have hkA := hA3.look hp
                have hkB := hB3.look hp
                rw [HH.out p] at hkB
                obtain ⟨h, hh⟩ : ∃ h, h = hasB ss p := ⟨_, rfl⟩
                rw [← hh] at hkA hkB ⊢
                clear hh
                go_wp2
                go_ret
                exact ⟨rfl, hbelow.out⟩
end Go.Proofs.Qxb6619603a

/-
  WALK: zzBytes_FnStepsInsertOneStepAtAnyPlace.
-/
import Derived.Test.Qxb6619706aBytesB
namespace Go.Proofs.Qxb6619706a
open Go.RowKit

structure SmallA (ks ns : List ByteArray) (L : List Lst) (q : ByteArray) (tk : Stp) : Prop where
  f0 : StrsFit 1048576 ks
  f1 : StrsFit 1048576 ns
  f2 : ListsFit 1048576 L
  f3 : q.size ≤ 1048576
  f4 : StpFits 1048576 tk

set_option maxRecDepth 100000 in
set_option maxHeartbeats 1000000 in
theorem bytes5 (jj aa : Int) (tk : Stp) (a0 a1 a2 : Option Addr) (c0 c1 c2 : Nat) (ks ns : List ByteArray) (L : List Lst) (q : ByteArray) (w : World)
    (h0 : StrsAt w a0 ks) (h1 : StrsAt w a1 ns) (h2 : ListsAt w a2 L) (f0 : StrsFit maxLen ks) (f1 : StrsFit maxLen ns) (f2 : ListsFit maxLen L) (f3 : q.size ≤ maxLen) (f4 : StpFits maxLen tk) :
    Calls Try.prog 5 #[.slice a0 ks.length c0, .slice a1 ns.length c1, .slice a2 L.length c2, .int .i64 jj, .int .i64 aa, .agg #[.string tk.tok, .string tk.fau, .int .i64 tk.st, .string tk.ra, .string tk.bod], .string q] w (Told (SmallA ks ns L q tk) w) := by
  obtain ⟨f0l, f0s⟩ := f0
  obtain ⟨f1l, f1s⟩ := f1
  obtain ⟨f2l, f2s⟩ := f2
  obtain ⟨y0, y1, y2, y3⟩ := f4
  unfold maxLen at f0l f1l f2l f3 y0 y1 y2 y3
  have HB : Hid (Below w.heap.size w (w.alloc (.cells #[.string tk.tok, .string tk.fau, .int .i64 tk.st, .string tk.ra, .string tk.bod] 25))) := (Below.refl _ _).alloc (Nat.le_refl _) _
  go_enter Try.func5, Try.ntmps5
  go_wp2
  · go_ret
    exact told_no HB.out
  have hk0 : ks.length ≤ 1048576 := by omega
  go_loop [15, 16] (fun z i => ∃ t k : Nat, t ≤ 1048576 ∧ k ≤ ks.length ∧ z = .int .i64 (t : Int) ∧ i = .int .i64 (k : Int) ∧ ∀ x ∈ ks.take k, x.size ≤ 1048576) (fun _ i => ks.length - (intOf i).toNat)
  case atStart => exact ⟨ks.length, 0, hk0, Nat.zero_le _, rfl, rfl, by simp⟩
  case round =>
    obtain ⟨t, k, ht, hk, rfl, rfl, hall0⟩ := hrel
    by_cases hlt : k < ks.length
    · obtain ⟨b, off, rfl, hc⟩ := h0 k hlt
      have hbl : b < w.heap.size := lt_of_cell hc
      have hsz := f0s _ (mem_getD hlt)
      have hst := strs_snoc hlt hall0
      generalize ks.getD k ByteArray.empty = x at *
      unfold maxLen at hsz
      go_wp2
      · go_ret
        exact told_no HB.out
      · go_ret
        exact told_no HB.out
      · go_round
        case rel => exact ⟨t + x.size, k + 1, by omega, by omega, by go_num, by go_num, hst (by omega)⟩
        case measure => simp [intOf]; omega
    · have e : k = ks.length := by omega
      rw [e, List.take_length] at hall0
      clear e
      go_wp2
      · go_ret
        exact told_no HB.out
      · go_ret
        exact told_no HB.out
      have hk1 : ns.length ≤ 1048576 := by omega
      go_loop [15, 17] (fun z i => ∃ t k : Nat, t ≤ 1048576 ∧ k ≤ ns.length ∧ z = .int .i64 (t : Int) ∧ i = .int .i64 (k : Int) ∧ ∀ x ∈ ns.take k, x.size ≤ 1048576) (fun _ i => ns.length - (intOf i).toNat)
      case atStart => exact ⟨t + ns.length, 0, by omega, Nat.zero_le _, rfl, rfl, by simp⟩
      case round =>
        clear ht
        obtain ⟨t, k, ht, hk, rfl, rfl, hall1⟩ := hrel
        by_cases hlt : k < ns.length
        · obtain ⟨b, off, rfl, hc⟩ := h1 k hlt
          have hbl : b < w.heap.size := lt_of_cell hc
          have hsz := f1s _ (mem_getD hlt)
          have hst := strs_snoc hlt hall1
          generalize ns.getD k ByteArray.empty = x at *
          unfold maxLen at hsz
          go_wp2
          · go_ret
            exact told_no HB.out
          · go_ret
            exact told_no HB.out
          · go_round
            case rel => exact ⟨t + x.size, k + 1, by omega, by omega, by go_num, by go_num, hst (by omega)⟩
            case measure => simp [intOf]; omega
        · have e : k = ns.length := by omega
          rw [e, List.take_length] at hall1
          clear e
          go_wp2
          · go_ret
            exact told_no HB.out
          · go_ret
            exact told_no HB.out
          have hk2 : L.length ≤ 1048576 := by omega
          go_loop [15, 18] (fun z i => ∃ t k : Nat, t ≤ 1048576 ∧ k ≤ L.length ∧ z = .int .i64 (t : Int) ∧ i = .int .i64 (k : Int) ∧ ∀ x ∈ L.take k, LstFits x) (fun _ i => L.length - (intOf i).toNat)
          case atStart => exact ⟨t + L.length, 0, by omega, Nat.zero_le _, rfl, rfl, by simp⟩
          case round =>
            clear ht
            obtain ⟨t, k, ht, hk, rfl, rfl, hall2⟩ := hrel
            by_cases hlt : k < L.length
            · obtain ⟨⟨b, off, rfl, hc⟩, hx⟩ := h2 k hlt
              have hbl : b < w.heap.size := lt_of_cell hc
              obtain ⟨hxl, hxs⟩ := f2s _ (lst_mem hlt)
              have hst := lsts_snoc hlt hall2
              generalize L.getD k Lst.none = l at *
              unfold maxLen at hxl
              go_wp2
              · go_ret
                exact told_no HB.out
              · go_ret
                exact told_no HB.out
              have hk3 : l.xs.length ≤ 1048576 := by omega
              go_loop [15, 19] (fun z i => ∃ t j : Nat, t ≤ 1048576 ∧ j ≤ l.xs.length ∧ z = .int .i64 (t : Int) ∧ i = .int .i64 (j : Int) ∧ ∀ x ∈ l.xs.take j, StpFits 1048576 x) (fun _ i => l.xs.length - (intOf i).toNat)
              case atStart => exact ⟨t + l.xs.length, 0, by omega, Nat.zero_le _, rfl, rfl, by simp⟩
              case round =>
                clear ht
                obtain ⟨t, j, ht, hj, rfl, rfl, hall3⟩ := hrel
                by_cases hjl : j < l.xs.length
                · obtain ⟨bx, ox, hxa, hsx⟩ := hx j hjl
                  have hsf := hxs _ (stp_mem hjl)
                  have hst3 := stps_snoc hjl hall3
                  rw [hxa] at hc
                  generalize l.xs.getD j Stp.none = sx at *
                  obtain ⟨d0, d1, d2, d3, d4⟩ := hsx
                  have hbx : bx < w.heap.size := lt_of_cell d0
                  obtain ⟨e0, e1, e2, e3⟩ := hsf
                  unfold maxLen at e0 e1 e2 e3
                  go_wp2
                  · go_ret
                    exact told_no HB.out
                  · go_ret
                    exact told_no HB.out
                  · go_ret
                    exact told_no HB.out
                  · go_ret
                    exact told_no HB.out
                  · go_ret
                    exact told_no HB.out
                  · go_ret
                    exact told_no HB.out
                  · go_ret
                    exact told_no HB.out
                  · go_ret
                    exact told_no HB.out
                  · go_round
                    case rel => exact ⟨t + sx.tok.size + sx.fau.size + sx.ra.size + sx.bod.size, j + 1, by omega, by omega, by go_num, by go_num, hst3 ⟨by omega, by omega, by omega, by omega⟩⟩
                    case measure => simp [intOf]; omega
                · have e : j = l.xs.length := by omega
                  rw [e, List.take_length] at hall3
                  clear e
                  go_wp2
                  go_round
                  case rel => exact ⟨t, k + 1, ht, by omega, rfl, by go_num, hst ⟨hk3, hall3⟩⟩
                  case measure => simp [intOf]; omega
            · have e : k = L.length := by omega
              rw [e, List.take_length] at hall2
              clear e
              go_wp2
              · go_ret
                exact told_no HB.out
              · go_ret
                exact told_no HB.out
              · go_ret
                exact told_no HB.out
              · go_ret
                exact told_no HB.out
              · go_ret
                exact told_no HB.out
              · go_ret
                exact told_no HB.out
              · go_ret
                exact told_no HB.out
              · go_ret
                exact told_no HB.out
              · go_ret
                exact told_no HB.out
              · go_ret
                exact told_no HB.out
              · go_ret
                exact told_yes HB.out ⟨⟨hk0, hall0⟩, ⟨hk1, hall1⟩, ⟨hk2, hall2⟩, by omega, by omega, by omega, by omega, by omega⟩
end Go.Proofs.Qxb6619706a

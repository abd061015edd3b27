/-
  WALKS: zzAdd, zzStepBytes, zzTooBig.
-/
import Derived.Test.Qxb6619706aKit
namespace Go.Proofs.Qxb6619706a
open Go.RowKit

/-- 'It hands back a number from 0 to 1048577.' -/
def Sum (w : World) (e : Ending) (w' : World) : Prop := ∃ r : Nat, r ≤ 1048577 ∧ e = .returned (.int .i64 (r : Int)) ∧ w' = w
def SumB (w : World) (e : Ending) (w' : World) : Prop := ∃ r : Nat, r ≤ 1048577 ∧ e = .returned (.int .i64 (r : Int)) ∧ Below w.heap.size w w'

theorem add_any (t n : Nat) (ht : t ≤ 1048577) (hn : n ≤ 1048576) (w : World) : Calls Try.prog 16 #[.int .i64 (t : Int), .int .i64 (n : Int)] w (Sum w) := by
  by_cases h : 1048576 < n + t
  · have h' : (1048576 : Int) - (t : Int) < (n : Int) := by omega
    go_enter Try.func16, Try.ntmps16
    go_wp2
    go_ret
    exact ⟨1048577, by omega, rfl, rfl⟩
  · have h' : ¬ (1048576 : Int) - (t : Int) < (n : Int) := by omega
    go_enter Try.func16, Try.ntmps16
    go_wp2
    go_ret
    exact ⟨t + n, by omega, rfl, rfl⟩

set_option maxHeartbeats 400000 in
theorem stepbytes_any (t : Nat) (s : Stp) (ht : t ≤ 1048577) (hs : StpFits 1048576 s) (w : World) : Calls Try.prog 17 #[.int .i64 (t : Int), .agg #[.string s.tok, .string s.fau, .int .i64 s.st, .string s.ra, .string s.bod]] w (SumB w) := by
  obtain ⟨h1, h2, h3, h4⟩ := hs
  go_enter Try.func17, Try.ntmps17
  go_wp2_with fail
  refine (add_any t 8 ht (by omega) _).mono ?_
  rintro e w1 ⟨r1, hr1, rfl, rfl⟩
  go_wp2_with fail
  refine (add_any r1 _ hr1 h1 _).mono ?_
  rintro e w1 ⟨r2, hr2, rfl, rfl⟩
  go_wp2_with fail
  refine (add_any r2 _ hr2 h2 _).mono ?_
  rintro e w1 ⟨r3, hr3, rfl, rfl⟩
  go_wp2_with fail
  refine (add_any r3 _ hr3 h3 _).mono ?_
  rintro e w1 ⟨r4, hr4, rfl, rfl⟩
  go_wp2_with fail
  refine (add_any r4 _ hr4 h4 _).mono ?_
  rintro e w1 ⟨r5, hr5, rfl, rfl⟩
  go_wp2
  go_ret
  exact ⟨r5, hr5, rfl, (Below.refl _ _).alloc (Nat.le_refl _) _⟩

def Says (w : World) (e : Ending) (w' : World) : Prop := ∃ r, e = .returned (.bool r) ∧ Below w.heap.size w w'

set_option maxRecDepth 100000 in
set_option maxHeartbeats 1000000 in
theorem toobig_any (a0 a1 a2 : Option Addr) (c0 c1 c2 : Nat) (ks ns : List ByteArray) (L : List Lst) (q : ByteArray) (s : Stp) (w : World)
    (h0 : StrsAt w a0 ks) (h1 : StrsAt w a1 ns) (h2 : ListsAt w a2 L) (f0 : StrsFit 1048576 ks) (f1 : StrsFit 1048576 ns) (f2 : ListsFit 1048576 L) (f3 : q.size ≤ 1048576) (f4 : StpFits 1048576 s) :
    Calls Try.prog 6 #[.slice a0 ks.length c0, .slice a1 ns.length c1, .slice a2 L.length c2, .string q, .agg #[.string s.tok, .string s.fau, .int .i64 s.st, .string s.ra, .string s.bod]] w (Says w) := by
  obtain ⟨f0l, f0s⟩ := f0
  obtain ⟨f1l, f1s⟩ := f1
  obtain ⟨f2l, f2s⟩ := f2
  go_enter Try.func6, Try.ntmps6
  go_wp2_with fail
  refine (add_any 0 q.size (by omega) f3 _).mono ?_
  rintro e w1 ⟨r1, hr1, rfl, rfl⟩
  go_wp2_with fail
  refine (stepbytes_any r1 s hr1 f4 _).mono ?_
  rintro e w1 ⟨r2, hr2, rfl, hb1⟩
  have hbw : Below w.heap.size w w1 := ((Below.refl _ _).alloc (Nat.le_refl _) _).trans (hb1.mono (by simp))
  clear hb1
  go_wp2
  · go_ret
    exact ⟨_, rfl, hbw⟩
  go_loop [11, 12] (fun z i => ∃ t k : Nat, t ≤ 1048577 ∧ k ≤ ks.length ∧ z = .int .i64 (t : Int) ∧ i = .int .i64 (k : Int)) (fun _ i => ks.length - (intOf i).toNat)
  case atStart => exact ⟨r2, 0, hr2, Nat.zero_le _, rfl, rfl⟩
  case round =>
    obtain ⟨t, k, ht, hk, rfl, rfl⟩ := hrel
    by_cases hlt : k < ks.length
    · obtain ⟨b, off, rfl, hc⟩ := (h0.below hbw) k hlt
      have hsz := f0s _ (mem_getD hlt)
      generalize ks.getD k ByteArray.empty = x at *
      go_wp2_with fail
      refine (add_any t 16 ht (by omega) _).mono ?_
      rintro e w2 ⟨r3, hr3, rfl, rfl⟩
      go_wp2_with fail
      refine (add_any r3 _ hr3 hsz _).mono ?_
      rintro e w2 ⟨r4, hr4, rfl, rfl⟩
      go_wp2
      · go_ret
        exact ⟨_, rfl, hbw⟩
      · go_round
        case rel => exact ⟨r4, k + 1, hr4, by omega, rfl, by go_num⟩
        case measure => simp [intOf]; omega
    · go_wp2
      go_loop [11, 13] (fun z i => ∃ t k : Nat, t ≤ 1048577 ∧ k ≤ ns.length ∧ z = .int .i64 (t : Int) ∧ i = .int .i64 (k : Int)) (fun _ i => ns.length - (intOf i).toNat)
      case atStart => exact ⟨t, 0, ht, Nat.zero_le _, rfl, rfl⟩
      case round =>
        clear ht
        obtain ⟨t, k, ht, hk, rfl, rfl⟩ := hrel
        by_cases hlt : k < ns.length
        · obtain ⟨b, off, rfl, hc⟩ := (h1.below hbw) k hlt
          have hsz := f1s _ (mem_getD hlt)
          generalize ns.getD k ByteArray.empty = x at *
          go_wp2_with fail
          refine (add_any t 16 ht (by omega) _).mono ?_
          rintro e w2 ⟨r3, hr3, rfl, rfl⟩
          go_wp2_with fail
          refine (add_any r3 _ hr3 hsz _).mono ?_
          rintro e w2 ⟨r4, hr4, rfl, rfl⟩
          go_wp2
          · go_ret
            exact ⟨_, rfl, hbw⟩
          · go_round
            case rel => exact ⟨r4, k + 1, hr4, by omega, rfl, by go_num⟩
            case measure => simp [intOf]; omega
        · go_wp2
          go_loopw [11, 14] (fun z i wr => ∃ t k : Nat, t ≤ 1048577 ∧ k ≤ L.length ∧ z = .int .i64 (t : Int) ∧ i = .int .i64 (k : Int) ∧ Below w.heap.size w wr) (fun _ i _ => L.length - (intOf i).toNat)
          case atStart => exact ⟨t, 0, ht, Nat.zero_le _, rfl, rfl, hbw⟩
          case round =>
            clear ht hbw
            obtain ⟨t, k, ht, hk, rfl, rfl, hbw⟩ := hrel
            by_cases hlt : k < L.length
            · obtain ⟨⟨b, off, rfl, hc⟩, hx⟩ := h2 k hlt
              obtain ⟨hxl, hxs⟩ := f2s _ (lst_mem hlt)
              generalize L.getD k Lst.none = l at *
              have hcw := (hbw.cell (p := ⟨b, off + k, none⟩) (lt_of_cell hc)).trans hc
              go_wp2_with fail
              refine (add_any t 24 ht (by omega) _).mono ?_
              rintro e w2 ⟨r3, hr3, rfl, rfl⟩
              go_wp2
              · go_ret
                exact ⟨_, rfl, hbw⟩
              go_loopw [11, 15] (fun z i wx => ∃ t j : Nat, t ≤ 1048577 ∧ j ≤ l.xs.length ∧ z = .int .i64 (t : Int) ∧ i = .int .i64 (j : Int) ∧ Below w.heap.size w wx) (fun _ i _ => l.xs.length - (intOf i).toNat)
              case atStart => exact ⟨r3, 0, hr3, Nat.zero_le _, rfl, rfl, hbw⟩
              case round =>
                clear ht hbw hcw
                obtain ⟨t, j, ht, hj, rfl, rfl, hbw⟩ := hrel
                have hcw := (hbw.cell (p := ⟨b, off + k, none⟩) (lt_of_cell hc)).trans hc
                by_cases hjl : j < l.xs.length
                · obtain ⟨bx, ox, hxa, hsx⟩ := hx j hjl
                  have hsf := hxs _ (stp_mem hjl)
                  have hsx' := hsx.below hbw
                  rw [hxa] at hcw
                  clear hsx
                  generalize l.xs.getD j Stp.none = sx at *
                  obtain ⟨d0, d1, d2, d3, d4⟩ := hsx'
                  go_wp2_with fail
                  refine (stepbytes_any t sx ht hsf _).mono ?_
                  rintro e w3 ⟨r4, hr4, rfl, hb3⟩
                  have hbw3 := hbw.trans (hb3.mono hbw.size)
                  go_wp2
                  · go_ret
                    exact ⟨_, rfl, hbw3⟩
                  · go_roundw
                    case rel => exact ⟨r4, j + 1, hr4, by omega, rfl, by go_num, hbw3⟩
                    case measure => simp [intOf]; omega
                · go_wp2
                  go_roundw
                  case rel => exact ⟨t, k + 1, ht, by omega, rfl, by go_num, hbw⟩
                  case measure => simp [intOf]; omega
            · go_wp2
              go_ret
              exact ⟨_, rfl, hbw⟩
end Go.Proofs.Qxb6619706a

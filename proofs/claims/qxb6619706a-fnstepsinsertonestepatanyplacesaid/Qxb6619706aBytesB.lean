/-
  WALK: zzBytes_FnStepsGivesAFreshListEachCall.
-/
import Derived.Test.Qxb6619706aKit
namespace Go.Proofs.Qxb6619706a
open Go.RowKit

structure SmallB (ks ns : List ByteArray) (L : List Lst) (q : ByteArray) : Prop where
  f0 : StrsFit 1048576 ks
  f1 : StrsFit 1048576 ns
  f2 : ListsFit 1048576 L
  f3 : q.size ≤ 1048576

theorem strs_snoc {ss : List ByteArray} {k : Nat} (hk : k < ss.length) (h : ∀ x ∈ ss.take k, x.size ≤ 1048576) (h1 : (ss.getD k ByteArray.empty).size ≤ 1048576) : ∀ x ∈ ss.take (k + 1), x.size ≤ 1048576 := by
  intro x hx
  rw [List.take_succ_eq_append_getElem hk, List.mem_append] at hx
  rcases hx with hx | hx
  · exact h x hx
  · rw [List.mem_singleton] at hx
    rw [hx]
    simpa [List.getD, hk] using h1
theorem stps_snoc {xs : List Stp} {k : Nat} (hk : k < xs.length) (h : ∀ x ∈ xs.take k, StpFits 1048576 x) (h1 : StpFits 1048576 (xs.getD k Stp.none)) : ∀ x ∈ xs.take (k + 1), StpFits 1048576 x := by
  intro x hx
  rw [List.take_succ_eq_append_getElem hk, List.mem_append] at hx
  rcases hx with hx | hx
  · exact h x hx
  · rw [List.mem_singleton] at hx
    rw [hx]
    simpa [List.getD, hk] using h1
def LstFits (l : Lst) : Prop := l.xs.length ≤ 1048576 ∧ ∀ s ∈ l.xs, StpFits 1048576 s
theorem lsts_snoc {L : List Lst} {k : Nat} (hk : k < L.length) (h : ∀ x ∈ L.take k, LstFits x) (h1 : LstFits (L.getD k Lst.none)) : ∀ x ∈ L.take (k + 1), LstFits x := by
  intro x hx
  rw [List.take_succ_eq_append_getElem hk, List.mem_append] at hx
  rcases hx with hx | hx
  · exact h x hx
  · rw [List.mem_singleton] at hx
    rw [hx]
    simpa [List.getD, hk] using h1

/-- 'It says true only where S holds, and turns nothing.' -/
def TellsB (S : Prop) (w : World) (e : Ending) (w' : World) : Prop := ∃ r, e = .returned (.bool r) ∧ (r = true → S) ∧ w' = w
theorem tells_no {S : Prop} {w : World} : TellsB S w (.returned (.bool false)) w := ⟨false, rfl, by simp, rfl⟩
theorem tells_yes {S : Prop} {w : World} (h : S) : TellsB S w (.returned (.bool true)) w := ⟨true, rfl, fun _ => h, rfl⟩

set_option maxRecDepth 100000 in
set_option maxHeartbeats 1000000 in
theorem bytes15 (a0 a1 a2 : Option Addr) (c0 c1 c2 : Nat) (ks ns : List ByteArray) (L : List Lst) (q : ByteArray) (w : World)
    (h0 : StrsAt w a0 ks) (h1 : StrsAt w a1 ns) (h2 : ListsAt w a2 L) (f0 : StrsFit maxLen ks) (f1 : StrsFit maxLen ns) (f2 : ListsFit maxLen L) (f3 : q.size ≤ maxLen) :
    Calls Try.prog 15 #[.slice a0 ks.length c0, .slice a1 ns.length c1, .slice a2 L.length c2, .string q] w (TellsB (SmallB ks ns L q) w) := by
  obtain ⟨f0l, f0s⟩ := f0
  obtain ⟨f1l, f1s⟩ := f1
  obtain ⟨f2l, f2s⟩ := f2
  unfold maxLen at f0l f1l f2l f3
  go_enter Try.func15, Try.ntmps15
  go_wp2
  · go_ret
    exact tells_no
  have hk0 : ks.length ≤ 1048576 := by omega
  go_loop [9, 10] (fun z i => ∃ t k : Nat, t ≤ 1048576 ∧ k ≤ ks.length ∧ z = .int .i64 (t : Int) ∧ i = .int .i64 (k : Int) ∧ ∀ x ∈ ks.take k, x.size ≤ 1048576) (fun _ i => ks.length - (intOf i).toNat)
  case atStart => exact ⟨ks.length, 0, hk0, Nat.zero_le _, rfl, rfl, by simp⟩
  case round =>
    obtain ⟨t, k, ht, hk, rfl, rfl, hall0⟩ := hrel
    by_cases hlt : k < ks.length
    · obtain ⟨b, off, rfl, hc⟩ := h0 k hlt
      have hsz := f0s _ (mem_getD hlt)
      have hst := strs_snoc hlt hall0
      generalize ks.getD k ByteArray.empty = x at *
      unfold maxLen at hsz
      go_wp2
      · go_ret
        exact tells_no
      · go_ret
        exact tells_no
      · go_round
        case rel => exact ⟨t + x.size, k + 1, by omega, by omega, by go_num, by go_num, hst (by omega)⟩
        case measure => simp [intOf]; omega
    · have e : k = ks.length := by omega
      rw [e, List.take_length] at hall0
      clear e
      go_wp2
      · go_ret
        exact tells_no
      · go_ret
        exact tells_no
      have hk1 : ns.length ≤ 1048576 := by omega
      go_loop [9, 11] (fun z i => ∃ t k : Nat, t ≤ 1048576 ∧ k ≤ ns.length ∧ z = .int .i64 (t : Int) ∧ i = .int .i64 (k : Int) ∧ ∀ x ∈ ns.take k, x.size ≤ 1048576) (fun _ i => ns.length - (intOf i).toNat)
      case atStart => exact ⟨t + ns.length, 0, by omega, Nat.zero_le _, rfl, rfl, by simp⟩
      case round =>
        clear ht
        obtain ⟨t, k, ht, hk, rfl, rfl, hall1⟩ := hrel
        by_cases hlt : k < ns.length
        · obtain ⟨b, off, rfl, hc⟩ := h1 k hlt
          have hsz := f1s _ (mem_getD hlt)
          have hst := strs_snoc hlt hall1
          generalize ns.getD k ByteArray.empty = x at *
          unfold maxLen at hsz
          go_wp2
          · go_ret
            exact tells_no
          · go_ret
            exact tells_no
          · go_round
            case rel => exact ⟨t + x.size, k + 1, by omega, by omega, by go_num, by go_num, hst (by omega)⟩
            case measure => simp [intOf]; omega
        · have e : k = ns.length := by omega
          rw [e, List.take_length] at hall1
          clear e
          go_wp2
          · go_ret
            exact tells_no
          · go_ret
            exact tells_no
          have hk2 : L.length ≤ 1048576 := by omega
          go_loop [9, 12] (fun z i => ∃ t k : Nat, t ≤ 1048576 ∧ k ≤ L.length ∧ z = .int .i64 (t : Int) ∧ i = .int .i64 (k : Int) ∧ ∀ x ∈ L.take k, LstFits x) (fun _ i => L.length - (intOf i).toNat)
          case atStart => exact ⟨t + L.length, 0, by omega, Nat.zero_le _, rfl, rfl, by simp⟩
          case round =>
            clear ht
            obtain ⟨t, k, ht, hk, rfl, rfl, hall2⟩ := hrel
            by_cases hlt : k < L.length
            · obtain ⟨⟨b, off, rfl, hc⟩, hx⟩ := h2 k hlt
              obtain ⟨hxl, hxs⟩ := f2s _ (lst_mem hlt)
              have hst := lsts_snoc hlt hall2
              generalize L.getD k Lst.none = l at *
              unfold maxLen at hxl
              go_wp2
              · go_ret
                exact tells_no
              · go_ret
                exact tells_no
              have hk3 : l.xs.length ≤ 1048576 := by omega
              go_loop [9, 13] (fun z i => ∃ t j : Nat, t ≤ 1048576 ∧ j ≤ l.xs.length ∧ z = .int .i64 (t : Int) ∧ i = .int .i64 (j : Int) ∧ ∀ x ∈ l.xs.take j, StpFits 1048576 x) (fun _ i => l.xs.length - (intOf i).toNat)
              case atStart => exact ⟨t + l.xs.length, 0, by omega, Nat.zero_le _, rfl, rfl, by simp⟩
              case round =>
                clear ht
                obtain ⟨t, j, ht, hj, rfl, rfl, hall3⟩ := hrel
                by_cases hjl : j < l.xs.length
                · obtain ⟨bx, ox, hxa, hsx⟩ := hx j hjl
                  have hsf := hxs _ (stp_mem hjl)
                  have hst3 := stps_snoc hjl hall3
                  rw [hxa] at hc
                  generalize l.xs.getD j Stp.none = sx at *
                  obtain ⟨d0, d1, d2, d3, d4⟩ := hsx
                  obtain ⟨e0, e1, e2, e3⟩ := hsf
                  unfold maxLen at e0 e1 e2 e3
                  go_wp2
                  · go_ret
                    exact tells_no
                  · go_ret
                    exact tells_no
                  · go_ret
                    exact tells_no
                  · go_ret
                    exact tells_no
                  · go_ret
                    exact tells_no
                  · go_ret
                    exact tells_no
                  · go_ret
                    exact tells_no
                  · go_ret
                    exact tells_no
                  · go_round
                    case rel => exact ⟨t + sx.tok.size + sx.fau.size + sx.ra.size + sx.bod.size, j + 1, by omega, by omega, by go_num, by go_num, hst3 ⟨by omega, by omega, by omega, by omega⟩⟩
                    case measure => simp [intOf]; omega
                · have e : j = l.xs.length := by omega
                  rw [e, List.take_length] at hall3
                  clear e
                  go_wp2
                  go_round
                  case rel => exact ⟨t, k + 1, ht, by omega, rfl, by go_num, hst ⟨hk3, hall3⟩⟩
                  case measure => simp [intOf]; omega
            · have e : k = L.length := by omega
              rw [e, List.take_length] at hall2
              clear e
              go_wp2
              · go_ret
                exact tells_no
              · go_ret
                exact tells_no
              · go_ret
                exact tells_yes ⟨⟨hk0, hall0⟩, ⟨hk1, hall1⟩, ⟨hk2, hall2⟩, by omega⟩
end Go.Proofs.Qxb6619706a

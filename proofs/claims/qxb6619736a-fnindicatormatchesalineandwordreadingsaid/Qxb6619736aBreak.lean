/-
  WALKS: zzBreakAt, zzLineEnd.
-/
import Derived.Test.Qxb6619736aKit
namespace Go.Proofs.Qxb6619736a
open Go.RowKit

/-- The slice at ad holds the bytes ds. -/
def BAt (w : World) (ad : Option Addr) (ds : List Nat) : Prop := ds.length = 0 ∨ ∃ b off, ad = some ⟨b, off, none⟩ ∧ BytesAt w b off ds
theorem BAt.below {w w' : World} {ad : Option Addr} {ds : List Nat} (h : BAt w ad ds) (hb : Below w.heap.size w w') : BAt w' ad ds := by
  rcases h with h | ⟨b, off, e, hx⟩
  · exact .inl h
  · exact .inr ⟨b, off, e, hx.below hb⟩
theorem BAt.get {w : World} {ad : Option Addr} {ds : List Nat} (h : BAt w ad ds) (hp : 0 < ds.length) : ∃ b off, ad = some ⟨b, off, none⟩ ∧ BytesAt w b off ds := by
  rcases h with h | h
  · omega
  · exact h

set_option maxRecDepth 100000 in
set_option maxHeartbeats 2000000 in
theorem breakat_any (ad : Option Addr) (n c p : Nat) (ds : List Nat) (w : World) (hd : Hid (ds.length = n)) (hn : n ≤ 1048576) (hp : p ≤ 2097152) (sd : Small ds) (h : BAt w ad ds) :
    Calls Try.prog 8 #[.slice ad n c, .int .i64 (p : Int)] w fun e w' => e = .returned (.int .i64 ((brkAt ds p : Nat) : Int)) ∧ w' = w := by
  by_cases hpn : n ≤ p
  · have hB : brkAt ds p = 0 := by
      unfold brkAt brkOf
      rw [if_pos (by have := hd.out; omega)]
    rw [hB]
    clear hB
    go_enter Try.func8, Try.ntmps8
    go_wp2
    go_ret
    exact ⟨rfl, rfl⟩
  · obtain ⟨b, off, rfl, hx⟩ := h.get (by rw [hd.out]; omega)
    have hc0 : w.cell? ⟨b, off + p, none⟩ = some (.int .u8 (ds.getD p 0 : Nat)) := hx p (by rw [hd.out]; omega)
    have hc1 : p + 1 < n → w.cell? ⟨b, off + (p + 1), none⟩ = some (.int .u8 (ds.getD (p + 1) 0 : Nat)) := fun h1 => hx (p + 1) (by rw [hd.out]; omega)
    have hc2 : p + 2 < n → w.cell? ⟨b, off + (p + 2), none⟩ = some (.int .u8 (ds.getD (p + 2) 0 : Nat)) := fun h1 => hx (p + 2) (by rw [hd.out]; omega)
    have e0 := small_at sd p
    have e1 := small_at sd (p + 1)
    have e2 := small_at sd (p + 2)
    have hB : brkAt ds p = brkOf (n - p) (ds.getD p 0) (ds.getD (p + 1) 0) (ds.getD (p + 2) 0) := by rw [brkAt, hd.out]
    rw [hB]
    clear hB hx
    generalize ds.getD p 0 = d0 at *
    generalize ds.getD (p + 1) 0 = d1 at *
    generalize ds.getD (p + 2) 0 = d2 at *
    by_cases q0 : d0 = 13
    · subst q0
      by_cases q1 : p + 1 < n
      · have k1 := hc1 q1
        by_cases q2 : d1 = 10
        · subst q2
          have hB : brkOf (n - p) 13 10 d2 = 2 := by
            unfold brkOf
            rw [if_neg (by omega), if_pos rfl, if_pos ⟨by omega, rfl⟩]
          rw [hB]
          clear hB hc1 hc2
          go_enter Try.func8, Try.ntmps8
          go_wp2
          go_ret
          exact ⟨rfl, rfl⟩
        · have hB : brkOf (n - p) 13 d1 d2 = 1 := by
            unfold brkOf
            rw [if_neg (by omega), if_pos rfl, if_neg (by omega)]
          rw [hB]
          have z : ((d1 : Int) == 10) = false := beq_eq_false_iff_ne.2 (by omega)
          clear hB hc1 hc2
          go_enter Try.func8, Try.ntmps8
          go_wp2
          go_ret
          exact ⟨rfl, rfl⟩
      · have hB : brkOf (n - p) 13 d1 d2 = 1 := by
          unfold brkOf
          rw [if_neg (by omega), if_pos rfl, if_neg (by omega)]
        rw [hB]
        have z : decide ((2 : Int) ≤ (n : Int) - (p : Int)) = false := decide_eq_false (by omega)
        clear hB hc1 hc2
        go_enter Try.func8, Try.ntmps8
        go_wp2
        go_ret
        exact ⟨rfl, rfl⟩
    · have z0 : ((d0 : Int) == 13) = false := beq_eq_false_iff_ne.2 (by omega)
      by_cases q1 : d0 = 10
      · subst q1
        have hB : brkOf (n - p) 10 d1 d2 = 1 := by
          unfold brkOf
          rw [if_neg (by omega), if_neg (by omega), if_pos rfl]
        rw [hB]
        clear hB hc1 hc2
        go_enter Try.func8, Try.ntmps8
        go_wp2
        go_ret
        exact ⟨rfl, rfl⟩
      · have z1 : ((d0 : Int) == 10) = false := beq_eq_false_iff_ne.2 (by omega)
        by_cases q2 : d0 = 194
        · subst q2
          by_cases q3 : p + 1 < n
          · have k1 := hc1 q3
            by_cases q4 : d1 = 133
            · subst q4
              have hB : brkOf (n - p) 194 133 d2 = 2 := by
                unfold brkOf
                rw [if_neg (by omega), if_neg (by omega), if_neg (by omega), if_pos ⟨rfl, by omega, rfl⟩]
              rw [hB]
              clear hB hc1 hc2 z0 z1
              go_enter Try.func8, Try.ntmps8
              go_wp2
              go_ret
              exact ⟨rfl, rfl⟩
            · have hB : brkOf (n - p) 194 d1 d2 = 0 := by
                unfold brkOf
                rw [if_neg (by omega), if_neg (by omega), if_neg (by omega), if_neg (by omega), if_neg (by omega)]
              rw [hB]
              have z : ((d1 : Int) == 133) = false := beq_eq_false_iff_ne.2 (by omega)
              clear hB hc1 hc2 z0 z1
              go_enter Try.func8, Try.ntmps8
              go_wp2
              go_ret
              exact ⟨rfl, rfl⟩
          · have hB : brkOf (n - p) 194 d1 d2 = 0 := by
              unfold brkOf
              rw [if_neg (by omega), if_neg (by omega), if_neg (by omega), if_neg (by omega), if_neg (by omega)]
            rw [hB]
            have z : decide ((2 : Int) ≤ (n : Int) - (p : Int)) = false := decide_eq_false (by omega)
            clear hB hc1 hc2 z0 z1
            go_enter Try.func8, Try.ntmps8
            go_wp2
            go_ret
            exact ⟨rfl, rfl⟩
        · have z2 : ((d0 : Int) == 194) = false := beq_eq_false_iff_ne.2 (by omega)
          by_cases q3 : d0 = 226
          · subst q3
            clear z0 z1 z2
            by_cases q4 : p + 2 < n
            · have k1 := hc1 (by omega)
              have k2 := hc2 q4
              by_cases q5 : d1 = 128
              · subst q5
                by_cases q6 : d2 = 168
                · subst q6
                  have hB : brkOf (n - p) 226 128 168 = 3 := by
                    unfold brkOf
                    rw [if_neg (by omega), if_neg (by omega), if_neg (by omega), if_neg (by omega), if_pos ⟨rfl, by omega, rfl, .inl rfl⟩]
                  rw [hB]
                  clear hB hc1 hc2
                  go_enter Try.func8, Try.ntmps8
                  go_wp2
                  go_ret
                  exact ⟨rfl, rfl⟩
                · have z6 : ((d2 : Int) == 168) = false := beq_eq_false_iff_ne.2 (by omega)
                  by_cases q7 : d2 = 169
                  · subst q7
                    have hB : brkOf (n - p) 226 128 169 = 3 := by
                      unfold brkOf
                      rw [if_neg (by omega), if_neg (by omega), if_neg (by omega), if_neg (by omega), if_pos ⟨rfl, by omega, rfl, .inr rfl⟩]
                    rw [hB]
                    clear hB hc1 hc2 z6
                    go_enter Try.func8, Try.ntmps8
                    go_wp2
                    go_ret
                    exact ⟨rfl, rfl⟩
                  · have z7 : ((d2 : Int) == 169) = false := beq_eq_false_iff_ne.2 (by omega)
                    have hB : brkOf (n - p) 226 128 d2 = 0 := by
                      unfold brkOf
                      rw [if_neg (by omega), if_neg (by omega), if_neg (by omega), if_neg (by omega), if_neg (by omega)]
                    rw [hB]
                    clear hB hc1 hc2
                    go_enter Try.func8, Try.ntmps8
                    go_wp2
                    go_ret
                    exact ⟨rfl, rfl⟩
              · have z5 : ((d1 : Int) == 128) = false := beq_eq_false_iff_ne.2 (by omega)
                have hB : brkOf (n - p) 226 d1 d2 = 0 := by
                  unfold brkOf
                  rw [if_neg (by omega), if_neg (by omega), if_neg (by omega), if_neg (by omega), if_neg (by omega)]
                rw [hB]
                clear hB hc1 hc2
                go_enter Try.func8, Try.ntmps8
                go_wp2
                go_ret
                exact ⟨rfl, rfl⟩
            · have hB : brkOf (n - p) 226 d1 d2 = 0 := by
                unfold brkOf
                rw [if_neg (by omega), if_neg (by omega), if_neg (by omega), if_neg (by omega), if_neg (by omega)]
              rw [hB]
              have z : decide ((3 : Int) ≤ (n : Int) - (p : Int)) = false := decide_eq_false (by omega)
              clear hB hc1 hc2
              go_enter Try.func8, Try.ntmps8
              go_wp2
              go_ret
              exact ⟨rfl, rfl⟩
          · have z3 : ((d0 : Int) == 226) = false := beq_eq_false_iff_ne.2 (by omega)
            have hB : brkOf (n - p) d0 d1 d2 = 0 := by
              unfold brkOf
              rw [if_neg (by omega), if_neg (by omega), if_neg (by omega), if_neg (by omega), if_neg (by omega)]
            rw [hB]
            clear hB hc1 hc2
            go_enter Try.func8, Try.ntmps8
            go_wp2
            go_ret
            exact ⟨rfl, rfl⟩
end Go.Proofs.Qxb6619736a

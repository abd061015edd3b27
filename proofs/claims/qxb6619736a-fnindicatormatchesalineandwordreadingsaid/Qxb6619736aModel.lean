/-
  WALK: zzIndicatorModel.
-/
import Derived.Test.Qxb6619736aPlain
namespace Go.Proofs.Qxb6619736a
open Go.RowKit

theorem FirstStop.onward {s : Nat → Prop} {l p e j : Nat} (h : FirstStop s l p e) (h1 : p ≤ j) (h2 : j ≤ e) : FirstStop s l j e := ⟨h2, fun x a b => h.2.1 x (by omega) b, h.2.2⟩

set_option maxRecDepth 100000 in
set_option maxHeartbeats 4000000 in
theorem model_any (ad : Option Addr) (n c i : Nat) (ds : List Nat) (w : World) (hd : Hid (ds.length = n)) (hn : n ≤ 1048576) (hi : i < 9223372036854775808) (sd : Small ds) (h : BAt w ad ds) :
    Calls Try.prog 5 #[.slice ad n c, .int .i64 (i : Int)] w fun e w' => Tells ds i e ∧ w' = w := by
  go_enter Try.func5, Try.ntmps5
  go_wp2
  go_loop [6] (fun z => ∃ k : Nat, k < 9223372036854775808 ∧ z = .int .i64 (k : Int) ∧ Leads ds k i) (fun z => n - (intOf z).toNat)
  case atStart => exact ⟨i, hi, rfl, Leads.refl _ _⟩
  case round =>
    obtain ⟨k, hk, rfl, hL⟩ := hrel
    by_cases hkn : k < n
    · obtain ⟨b, off, rfl, hx⟩ := h.get (by rw [hd.out]; omega)
      go_wp2_with fail
      refine (lineend_any _ n c k ds w hd hn hkn sd h).mono ?_
      rintro _ w' ⟨⟨e, hF, rfl⟩, hw'⟩
      have hw'' := hw'.symm
      subst hw''
      have hen : e ≤ n := hF.le (by omega)
      have hke : k ≤ e := hF.1
      have HF := veil hF
      clear hF
      go_wp2
      go_loop [8, 9] (fun q cm => ∃ (j : Nat) (m : Bool), k ≤ j ∧ j ≤ e ∧ q = .int .i64 (j : Int) ∧ cm = .bool m ∧ (m = false → Leads ds j i) ∧ (m = true → Leads ds e i)) (fun q _ => e - (intOf q).toNat)
      case atStart => exact ⟨k, false, Nat.le_refl _, hke, rfl, rfl, fun _ => hL, fun h => by cases h⟩
      case round =>
        obtain ⟨j, m, hj1, hj2, rfl, rfl, hm0, hm1⟩ := hrel
        have HM0 := veil hm0
        have HM1 := veil hm1
        clear hm0 hm1
        by_cases hgo : j < e ∧ m = false
        · obtain ⟨hje, rfl⟩ := hgo
          have hLj := HM0.out rfl
          clear HM0 HM1
          have hc : w.cell? ⟨b, off + j, none⟩ = some (.int .u8 (ds.getD j 0 : Nat)) := hx j (by rw [hd.out]; omega)
          have hjl : Hid (j < ds.length) := by show j < ds.length; rw [hd.out]; omega
          have e0 := small_at sd j
          obtain ⟨d, hdj⟩ : ∃ d, ds.getD j 0 = d := ⟨_, rfl⟩
          have HD := veil hdj
          rw [hdj] at hc e0
          clear hdj
          by_cases q1 : d = 32
          · have q' : ((d : Nat) : Int) = 32 := by omega
            rw [q'] at hc
            clear q'
            go_wp2
            go_round
            case rel => exact ⟨j + 1, false, by omega, by omega, by go_num, rfl, fun _ => fun r hr => hLj r (.rdBlank hjl.out (.inl (HD.out.trans q1)) hr), fun h => by cases h⟩
            case measure => simp [intOf]; omega
          by_cases q2 : d = 9
          · have q' : ((d : Nat) : Int) = 9 := by omega
            rw [q'] at hc
            clear q'
            go_wp2
            go_round
            case rel => exact ⟨j + 1, false, by omega, by omega, by go_num, rfl, fun _ => fun r hr => hLj r (.rdBlank hjl.out (.inr (HD.out.trans q2)) hr), fun h => by cases h⟩
            case measure => simp [intOf]; omega
          have z1 : (((d : Nat) : Int) == 32) = false := beq_eq_false_iff_ne.2 (by omega)
          have z2 : (((d : Nat) : Int) == 9) = false := beq_eq_false_iff_ne.2 (by omega)
          go_wp2
          go_loop [8] (fun q => ∃ t : Nat, j ≤ t ∧ t ≤ e ∧ q = .int .i64 (t : Int) ∧ ∀ x, j ≤ x → x < t → ds.getD x 0 ≠ 32 ∧ ds.getD x 0 ≠ 9) (fun q => e - (intOf q).toNat)
          case atStart => exact ⟨j, Nat.le_refl _, hj2, rfl, fun x h1 h2 => by omega⟩
          case round =>
            obtain ⟨t, ht1, ht2, rfl, ht3⟩ := hrel
            have HT := veil ht3
            clear ht3
            by_cases hgo : t < e ∧ ds.getD t 0 ≠ 32 ∧ ds.getD t 0 ≠ 9
            · obtain ⟨hte, g1, g2⟩ := hgo
              have hct : w.cell? ⟨b, off + t, none⟩ = some (.int .u8 (ds.getD t 0 : Nat)) := hx t (by rw [hd.out]; omega)
              have HT' : Hid (∀ x, j ≤ x → x < t + 1 → ds.getD x 0 ≠ 32 ∧ ds.getD x 0 ≠ 9) := by
                intro x h1 h2
                by_cases hxt : x = t
                · rw [hxt]; exact ⟨g1, g2⟩
                · exact HT.out x h1 (by omega)
              generalize ds.getD t 0 = y at *
              have y1 : (((y : Nat) : Int) == 32) = false := beq_eq_false_iff_ne.2 (by omega)
              have y2 : (((y : Nat) : Int) == 9) = false := beq_eq_false_iff_ne.2 (by omega)
              have y3 : (((y : Nat) : Int) != 32) = true := bne_iff_ne.2 (by omega)
              have y4 : (((y : Nat) : Int) != 9) = true := bne_iff_ne.2 (by omega)
              go_wp2
              go_round
              case rel => exact ⟨t + 1, by omega, by omega, by go_num, HT'.out⟩
              case measure => simp [intOf]; omega
            · have htj : j < t := by
                rcases Nat.lt_or_ge j t with h1 | h1
                · exact h1
                · exfalso
                  have : t = j := by omega
                  apply hgo
                  rw [this, HD.out]
                  exact ⟨hje, q1, q2⟩
              have HW : Hid (FirstStop (WordStop ds) n j t) := by
                refine ⟨ht1, fun x h1 h2 => ⟨by omega, ?_⟩, ?_⟩
                · rintro (h | h | h)
                  · exact (HT.out x h1 h2).1 h
                  · exact (HT.out x h1 h2).2 h
                  · exact (HF.out.2.1 x (by omega) (by omega)).2 h
                · intro htn
                  by_cases hte : t < e
                  · by_cases h1 : ds.getD t 0 = 32
                    · exact .inl h1
                    · by_cases h2 : ds.getD t 0 = 9
                      · exact .inr (.inl h2)
                      · exact absurd ⟨hte, h1, h2⟩ hgo
                  · have : t = e := by omega
                    rw [this]
                    exact .inr (.inr (HF.out.2.2 (by omega)))
              have hct : t < e → w.cell? ⟨b, off + t, none⟩ = some (.int .u8 (ds.getD t 0 : Nat)) := fun _ => hx t (by rw [hd.out]; omega)
              have hex : e ≤ t ∨ (t < e ∧ w.cell? ⟨b, off + t, none⟩ = some (.int .u8 32)) ∨ (t < e ∧ w.cell? ⟨b, off + t, none⟩ = some (.int .u8 9)) := by
                by_cases hte : t < e
                · by_cases h1 : ds.getD t 0 = 32
                  · exact .inr (.inl ⟨hte, by rw [hct hte, h1]; rfl⟩)
                  · by_cases h2 : ds.getD t 0 = 9
                    · exact .inr (.inr ⟨hte, by rw [hct hte, h2]; rfl⟩)
                    · exact absurd ⟨hte, h1, h2⟩ hgo
                · exact .inl (by omega)
              have HBz : Hid (brkAt ds j = 0) := by
                show _ = _
                have := (HF.out.2.1 j hj1 hje).2
                unfold LineStop at this
                omega
              have hds := hd.out
              rw [← hds] at HW HF
              have HDS := veil hds
              clear hds hct hgo HT
              by_cases p1 : d = 124
              · have q' : ((d : Nat) : Int) = 124 := by omega
                rw [q'] at hc
                have HR : Hid (Reads ds j (some j)) := Reads.rdHit hjl.out (.inl (HD.out.trans p1))
                clear q'
                rcases hex with hex | ⟨hte, hct⟩ | ⟨hte, hct⟩
                all_goals
                  go_wp2
                  go_ret2
                  exact ⟨hLj.some HR.out, rfl⟩
              by_cases p2 : d = 62
              · have q' : ((d : Nat) : Int) = 62 := by omega
                rw [q'] at hc
                have HR : Hid (Reads ds j (some j)) := Reads.rdHit hjl.out (.inr (HD.out.trans p2))
                clear q'
                rcases hex with hex | ⟨hte, hct⟩ | ⟨hte, hct⟩
                all_goals
                  go_wp2
                  go_ret2
                  exact ⟨hLj.some HR.out, rfl⟩
              by_cases p3 : d = 35
              · have q' : ((d : Nat) : Int) = 35 := by omega
                rw [q'] at hc
                have HR : Hid (Leads ds e i) := fun r hr => hLj r (.rdNote hjl.out (HD.out.trans p3) (HF.out.onward hj1 hj2) hr)
                clear q'
                rcases hex with hex | ⟨hte, hct⟩ | ⟨hte, hct⟩
                all_goals
                  go_wp2
                  go_round
                  case rel => exact ⟨t, true, by omega, by omega, rfl, rfl, (fun h => by cases h), fun _ => HR.out⟩
                  case measure => simp [intOf]; omega
              by_cases p4 : d = 38
              · have q' : ((d : Nat) : Int) = 38 := by omega
                rw [q'] at hc
                have HR : Hid (Leads ds t i) := fun r hr => hLj r (.rdWord hjl.out (.inl (HD.out.trans p4)) HW.out hr)
                clear q'
                rcases hex with hex | ⟨hte, hct⟩ | ⟨hte, hct⟩
                all_goals
                  go_wp2
                  go_round
                  case rel => exact ⟨t, false, by omega, by omega, rfl, rfl, fun _ => HR.out, fun h => by cases h⟩
                  case measure => simp [intOf]; omega
              by_cases p5 : d = 33
              · have q' : ((d : Nat) : Int) = 33 := by omega
                rw [q'] at hc
                have HR : Hid (Leads ds t i) := fun r hr => hLj r (.rdWord hjl.out (.inr (HD.out.trans p5)) HW.out hr)
                clear q'
                rcases hex with hex | ⟨hte, hct⟩ | ⟨hte, hct⟩
                all_goals
                  go_wp2
                  go_round
                  case rel => exact ⟨t, false, by omega, by omega, rfl, rfl, fun _ => HR.out, fun h => by cases h⟩
                  case measure => simp [intOf]; omega
              have z3 : (((d : Nat) : Int) == 124) = false := beq_eq_false_iff_ne.2 (by omega)
              have z4 : (((d : Nat) : Int) == 62) = false := beq_eq_false_iff_ne.2 (by omega)
              have z5 : (((d : Nat) : Int) == 35) = false := beq_eq_false_iff_ne.2 (by omega)
              have z6 : (((d : Nat) : Int) != 38) = true := bne_iff_ne.2 (by omega)
              have z7 : (((d : Nat) : Int) != 33) = true := bne_iff_ne.2 (by omega)
              have HR : Hid (Reads ds j none) := Reads.rdOther hjl.out (by rw [HD.out]; omega) HBz.out
              rcases hex with hex | ⟨hte, hct⟩ | ⟨hte, hct⟩
              all_goals
                go_wp2
                go_ret2
                exact ⟨hLj.none HR.out, rfl⟩
        · have hLe : Leads ds e i := by
            by_cases hm : m = true
            · exact HM1.out hm
            · have hm' : m = false := by simpa using hm
              have : j = e := by
                rcases Nat.lt_or_ge j e with h1 | h1
                · exact absurd ⟨h1, hm'⟩ hgo
                · omega
              rw [← this]
              exact HM0.out hm'
          have hex : e ≤ j ∨ (j < e ∧ m = true) := by
            rcases Nat.lt_or_ge j e with h1 | h1
            · refine .inr ⟨h1, ?_⟩
              by_cases hm : m = true
              · exact hm
              · exact absurd ⟨h1, by simpa using hm⟩ hgo
            · exact .inl h1
          clear HM0 HM1 hgo
          have HB := veil (brkAt_le ds e)
          have hBs := HF.out.2.2
          by_cases hee : e = n
          · have HR : Hid (Reads ds e none) := Reads.rdEnd (by have := hd.out; omega)
            clear hBs
            rcases hex with hex | ⟨hex, rfl⟩
            all_goals
              go_wp2
              go_ret2
              exact ⟨hLe.none HR.out, rfl⟩
          · have HP : Hid (brkAt ds e ≠ 0) := hBs (by omega)
            clear hBs
            have HR : Hid (Leads ds (e + brkAt ds e) i) := fun r hr => hLe r (.rdBrk HP.out hr)
            rcases hex with hex | ⟨hex, rfl⟩
            all_goals
              go_wp2_with fail
              refine (breakat_any _ n c e ds w hd hn (by omega) sd h).mono ?_
              rintro _ w' ⟨rfl, hw'⟩
              have hw'' := hw'.symm
              subst hw''
              have hbl := HB.out
              have hds := hd.out
              have hbp := HP.out
              generalize brkAt ds e = x at *
              go_wp2
              go_round
              case rel => exact ⟨e + x, by omega, by go_num, HR.out⟩
              case measure => simp [intOf]; omega
    · go_wp2
      go_ret2
      exact ⟨hL.none (.rdEnd (by have := hd.out; omega)), rfl⟩
end Go.Proofs.Qxb6619736a

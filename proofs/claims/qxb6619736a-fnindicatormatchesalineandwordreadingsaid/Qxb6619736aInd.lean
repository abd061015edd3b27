/-
  WALK: indicator.
-/
import Derived.Test.Qxb6619736aModel
import Derived.Deep.RegionWith
import Derived.Deep.DeepCutAuto
namespace Go.Proofs.Qxb6619736a
open Go.RowKit

theorem Try.info5 : (Try.prog.info? 5).map (fun i => (i.zero, i.size, i.bytes)) = some (some (.int .u8 0), 1, 1) := by kernel_rfl
theorem cut_at (b off n cap q : Nat) (hq : q < n) (hnc : n ≤ cap) (w : World) :
    (Instr.slice 22 (.slice (some ⟨b, off, none⟩) n cap) (some (.int .i64 (q : Int))) none none).run Try.prog w = .ok (.slice (some ⟨b, off + q, none⟩) (n - q) (cap - q)) w := by
  obtain ⟨i0, hi, hz0, hz1, hz2⟩ := info_parts Try.info5
  have h1 : q ≤ n := by omega
  have h2 : ¬ cap = q := by omega
  simp [Instr.slice, Instr.sliceBounds, run_underlying Try.underlying22, sizeOf, typeInfo, hi, hz1, go_sem, h1, h2, Addr.add]

theorem break_from (b off n c t : Nat) (ds : List Nat) (w : World) (hd : Hid (ds.length = n)) (ht : t < n) (hnc : n ≤ c) (hn : n ≤ 1048576) (sd : Small ds) (h : BytesAt w b off ds) :
    Calls Try.prog 10 #[.slice (some ⟨b, off + t, none⟩) (n - t) (c - t)] w fun e w' => e = .returned (.int .i64 ((brkAt ds t : Nat) : Int)) ∧ Below w.heap.size w w' := by
  have hl : (ds.drop t).length = n - t := by rw [List.length_drop, hd.out]
  have hB : brkAt ds t = brkOf (n - t) ((ds.drop t).getD 0 0) ((ds.drop t).getD 1 0) ((ds.drop t).getD 2 0) := by
    unfold brkAt
    rw [hd.out]
    simp [List.getD]
  rw [hB]
  exact break_any b (off + t) (n - t) (c - t) (ds.drop t) w hl (by omega) (by omega) (by omega) (small_drop sd t) (h.drop t)
theorem box_cell (w : World) (v u : Value) (t : TypeId) : (w.alloc (.cells #[v, u] t)).cell? ⟨w.heap.size, 0, none⟩ = some v :=
  cell_of_row _ w.heap.size 0 _ _ _ (heap_alloc_new w (.cells #[v, u] t))

set_option maxRecDepth 100000 in
set_option maxHeartbeats 4000000 in
theorem ind_any (ad : Option Addr) (n c i : Nat) (ds : List Nat) (w : World) (hd : Hid (ds.length = n)) (hn : n ≤ 1048576) (hnc : n ≤ c) (hi : i < 9223372036854775808) (sd : Small ds) (h : BAt w ad ds) :
    Calls Try.prog 9 #[.agg #[.slice ad n c, .slice none 0 0], .int .i64 (i : Int)] w fun e w' => Tells ds i e ∧ Below w.heap.size w w' := by
  have hbox := box_cell w (.slice ad n c) (.slice none 0 0) 29
  have hbx0 : Below w.heap.size w (w.alloc (.cells #[.slice ad n c, .slice none 0 0] 29)) := (Below.refl _ _).alloc (Nat.le_refl _) _
  have hwz : w.heap.size < (w.alloc (.cells #[.slice ad n c, .slice none 0 0] 29)).heap.size := by simp
  have hB := h.below hbx0
  go_enter Try.func9, Try.ntmps9
  go_wp2
  generalize (w.alloc (.cells #[.slice ad n c, .slice none 0 0] 29)) = wB at *
  clear h
  go_loopw [1] (fun z wr => ∃ k : Nat, k < 9223372036854775808 ∧ z = .int .i64 (k : Int) ∧ Leads ds k i ∧ Below wB.heap.size wB wr) (fun z _ => n - (intOf z).toNat)
  case atStart => exact ⟨i, hi, rfl, Leads.refl _ _, Below.refl _ _⟩
  case round =>
    obtain ⟨k, hk, rfl, hL, hbw⟩ := hrel
    have hbr := (hbw.cell (p := ⟨w.heap.size, 0, none⟩) hwz).trans hbox
    by_cases hkn : k < n
    · obtain ⟨b, off, rfl, hx⟩ := hB.get (by rw [hd.out]; omega)
      have hcut0 := cut_at b off n c k hkn hnc
      have hxr := hx.below hbw
      have hc : wr.cell? ⟨b, off + k, none⟩ = some (.int .u8 (ds.getD k 0 : Nat)) := hxr k (by rw [hd.out]; omega)
      have hkl : Hid (k < ds.length) := by show k < ds.length; rw [hd.out]; omega
      have e0 := small_at sd k
      have hwrz := hbw.size
      have HC : Hid (Calls Try.prog 10 #[.slice (some ⟨b, off + k, none⟩) (n - k) (c - k)] wr.drew fun e w' => e = .returned (.int .i64 ((brkAt ds k : Nat) : Int)) ∧ Below wr.heap.size wr.drew w') :=
        break_from b off n c k ds wr.drew hd hkn hnc hn sd (hxr.below (Below.refl _ _).drew)
      have HD : Hid (∀ w5, Below wr.heap.size wr.drew w5 → w5.cell? ⟨w.heap.size, 0, none⟩ = some (.slice (some ⟨b, off, none⟩) n c) ∧ w5.cell? ⟨b, off + k, none⟩ = some (.int .u8 (ds.getD k 0 : Nat))) := by
        intro w5 hb
        exact ⟨(hb.cell (p := ⟨w.heap.size, 0, none⟩) (lt_of_cell hbr)).trans hbr, (hb.cell (p := ⟨b, off + k, none⟩) (lt_of_cell hc)).trans hc⟩
      have HBL := veil (brkAt_le ds k)
      obtain ⟨d, hdk⟩ : ∃ d, ds.getD k 0 = d := ⟨_, rfl⟩
      have HDK := veil hdk
      rw [hdk] at hc e0 HD
      clear hdk
      obtain ⟨x, hxk⟩ : ∃ x, brkAt ds k = x := ⟨_, rfl⟩
      have HX := veil hxk
      rw [hxk] at HC HBL
      clear hxk hxr
      go_upto_region 2 with fail
      go_cut [6, 7] (fun v6 v7 wc => v6 = .int .u8 (d : Int) ∧ v7 = .int .i64 (x : Int) ∧ Below wB.heap.size wB wc)
      case first =>
        go_region_with (go_at_call 10; refine HC.out.mono ?_; rintro e w5 ⟨rfl, hb5⟩; obtain ⟨hbx5, hc5⟩ := HD.out w5 hb5)
        all_goals
          have hbF : Below wB.heap.size wB w5 := (hbw.drew).trans (hb5.mono hwrz)
          clear hb5
          go_wp2
          go_meet
          case rel => exact ⟨rfl, rfl, hbF⟩
      obtain ⟨rfl, rfl, hbc⟩ := hcut
      clear HC HD hcut0 hc hbr hbw hwrz
      have hfin := hbx0.trans (hbc.mono (Nat.le_of_lt hwz))
      have hbl := HBL.out
      have hdl := hd.out
      rw [hdl] at hbl
      clear hdl HBL
      by_cases p1 : d = 124
      · have HR : Hid (Reads ds k (some k)) := Reads.rdHit hkl.out (.inl (HDK.out.trans p1))
        have q' : ((d : Nat) : Int) = 124 := by omega
        rw [q']
        clear q'
        go_wp2
        go_ret2
        exact ⟨hL.some HR.out, hfin⟩
      by_cases p2 : d = 62
      · have HR : Hid (Reads ds k (some k)) := Reads.rdHit hkl.out (.inr (HDK.out.trans p2))
        have q' : ((d : Nat) : Int) = 62 := by omega
        rw [q']
        clear q'
        go_wp2
        go_ret2
        exact ⟨hL.some HR.out, hfin⟩
      have z1 : (((d : Nat) : Int) == 124) = false := beq_eq_false_iff_ne.2 (by omega)
      have z2 : (((d : Nat) : Int) == 62) = false := beq_eq_false_iff_ne.2 (by omega)
      by_cases p3 : d = 32
      · have HR : Hid (Leads ds (k + 1) i) := fun r hr => hL r (.rdBlank hkl.out (.inl (HDK.out.trans p3)) hr)
        have q' : ((d : Nat) : Int) = 32 := by omega
        rw [q']
        clear q' z1 z2
        go_wp2
        go_roundw
        case rel => exact ⟨k + 1, by omega, by go_num, HR.out, hbc⟩
        case measure => simp [intOf]; omega
      by_cases p4 : d = 9
      · have HR : Hid (Leads ds (k + 1) i) := fun r hr => hL r (.rdBlank hkl.out (.inr (HDK.out.trans p4)) hr)
        have q' : ((d : Nat) : Int) = 9 := by omega
        rw [q']
        clear q' z1 z2
        go_wp2
        go_roundw
        case rel => exact ⟨k + 1, by omega, by go_num, HR.out, hbc⟩
        case measure => simp [intOf]; omega
      have z3 : (((d : Nat) : Int) == 32) = false := beq_eq_false_iff_ne.2 (by omega)
      have z4 : (((d : Nat) : Int) == 9) = false := beq_eq_false_iff_ne.2 (by omega)
      by_cases hx0 : x ≠ 0
      · have HR : Hid (Leads ds (k + x) i) := by
            intro r hr
            rw [← HX.out] at hr
            exact hL r (.rdBrk (by rw [HX.out]; exact hx0) hr)
        go_wp2
        go_roundw
        case rel => exact ⟨k + x, by omega, by go_num, HR.out, hbc⟩
        case measure => simp [intOf]; omega
      have hx0' : x = 0 := by omega
      have q0 : ((x : Nat) : Int) = 0 := by omega
      rw [q0]
      have HX0 : Hid (brkAt ds k = 0) := HX.out.trans hx0'
      clear q0 hx0 hx0' HX hbl
      by_cases p5 : d = 35
      · have q' : ((d : Nat) : Int) = 35 := by omega
        rw [q']
        clear q' z1 z2 z3 z4
        go_wp2
        go_loopw [1] (fun z wr => ∃ t : Nat, k ≤ t ∧ t ≤ n ∧ z = .int .i64 (t : Int) ∧ (∀ j, k ≤ j → j < t → brkAt ds j = 0) ∧ Below wB.heap.size wB wr) (fun z _ => n - (intOf z).toNat)
        case atStart => exact ⟨k, Nat.le_refl _, by omega, rfl, fun j h1 h2 => by omega, hbc⟩
        case round =>
          clear hbc hfin
          obtain ⟨t, ht1, ht2, rfl, ht3, hbt⟩ := hrel
          have HT := veil ht3
          have hbxt := (hbt.cell (p := ⟨w.heap.size, 0, none⟩) hwz).trans hbox
          clear ht3
          by_cases htn : t < n
          · have hcut1 := cut_at b off n c t htn hnc
            go_wp2_with fail
            refine (break_from b off n c t ds wr hd htn hnc hn sd (hx.below hbt)).mono ?_
            rintro _ w5 ⟨rfl, hb5⟩
            have hb6 : Below wB.heap.size wB w5 := hbt.trans (hb5.mono hbt.size)
            obtain ⟨y, hy⟩ : ∃ y, brkAt ds t = y := ⟨_, rfl⟩
            rw [hy]
            have HY := veil hy
            clear hy hb5
            by_cases y0 : y = 0
            · have q' : ((y : Nat) : Int) = 0 := by omega
              rw [q']
              clear q'
              have HT' : Hid (∀ j, k ≤ j → j < t + 1 → brkAt ds j = 0) := by
                intro j h1 h2
                by_cases hj : j = t
                · rw [hj, HY.out]; exact y0
                · exact HT.out j h1 (by omega)
              go_wp2
              go_roundw
              case rel => exact ⟨t + 1, by omega, by omega, by go_num, HT'.out, hb6⟩
              case measure => simp [intOf]; omega
            · have z5 : (((y : Nat) : Int) == 0) = false := beq_eq_false_iff_ne.2 (by omega)
              have htk : k < t := by
                rcases Nat.lt_or_ge k t with h1 | h1
                · exact h1
                · exfalso
                  have e : t = k := by omega
                  have := HY.out
                  rw [e, HX0.out] at this
                  omega
              have HR : Hid (Leads ds t i) := by
                refine fun r hr => hL r (.rdNote hkl.out (HDK.out.trans p5) ⟨ht1, fun j h1 h2 => ⟨by have := hd.out; omega, fun hs => hs (HT.out j h1 h2)⟩, fun _ => ?_⟩ hr)
                show brkAt ds t ≠ 0
                rw [HY.out]; exact y0
              go_wp2
              go_roundw
              case rel => exact ⟨t, by omega, rfl, HR.out, hb6⟩
              case measure => simp [intOf]; omega
          · have HR : Hid (Leads ds t i) := fun r hr => hL r (.rdNote hkl.out (HDK.out.trans p5) ⟨ht1, fun j h1 h2 => ⟨by have := hd.out; omega, fun hs => hs (HT.out j h1 h2)⟩, fun h => by have := hd.out; omega⟩ hr)
            go_wp2
            go_roundw
            case rel => exact ⟨t, by omega, rfl, HR.out, hbt⟩
            case measure => simp [intOf]; omega
      have z5 : (((d : Nat) : Int) == 35) = false := beq_eq_false_iff_ne.2 (by omega)
      by_cases hw : d = 38 ∨ d = 33
      · have HLW : Hid (∀ t, FirstStop (WordStop ds) ds.length k t → Leads ds t i) := by
            intro t hF r hr
            exact hL r (.rdWord hkl.out (by rw [HDK.out]; exact hw) hF hr)
        have HNS : Hid (¬ WordStop ds k) := by
            rintro (h | h | h)
            · exact p3 (HDK.out.symm.trans h)
            · exact p4 (HDK.out.symm.trans h)
            · exact h HX0.out
        have hz6 : (((d : Nat) : Int) = 38) ∨ ((((d : Nat) : Int) = 33) ∧ (((d : Nat) : Int) == 38) = false) := by
            rcases hw with h | h
            · exact .inl (by omega)
            · exact .inr ⟨by omega, beq_eq_false_iff_ne.2 (by omega)⟩
        clear p1 p2 p3 p4 p5 hw
        rcases hz6 with q' | ⟨q', z6⟩
        all_goals
          rw [q']
          clear z1 z2 z3 z4 z5 HDK e0
          clear q'
          go_wp2
          go_loopw [1] (fun z wr => ∃ t : Nat, k ≤ t ∧ t ≤ n ∧ z = .int .i64 (t : Int) ∧ (∀ j, k ≤ j → j < t → ¬ WordStop ds j) ∧ Below wB.heap.size wB wr) (fun z _ => n - (intOf z).toNat)
          case atStart => exact ⟨k, Nat.le_refl _, by omega, rfl, fun j h1 h2 => by omega, hbc⟩
          case round =>
            clear hbc hfin
            obtain ⟨t, ht1, ht2, rfl, ht3, hbt⟩ := hrel
            have HT := veil ht3
            have hbxt := (hbt.cell (p := ⟨w.heap.size, 0, none⟩) hwz).trans hbox
            clear ht3
            by_cases htn : t < n
            · have hcut1 := cut_at b off n c t htn hnc
              have hct : wr.cell? ⟨b, off + t, none⟩ = some (.int .u8 (ds.getD t 0 : Nat)) := (hx.below hbt) t (by rw [hd.out]; omega)
              have HST : Hid (WordStop ds t → k < t ∧ Leads ds t i) := by
                  intro hs
                  refine ⟨?_, HLW.out t ⟨ht1, fun j h1 h2 => ⟨by have := hd.out; omega, HT.out j h1 h2⟩, fun _ => hs⟩⟩
                  rcases Nat.lt_or_ge k t with h1 | h1
                  · exact h1
                  · have e : t = k := by omega
                    rw [e] at hs
                    exact absurd hs HNS.out
              obtain ⟨d, hdt⟩ : ∃ d, ds.getD t 0 = d := ⟨_, rfl⟩
              have HDT := veil hdt
              rw [hdt] at hct
              clear hdt
              by_cases a1 : d = 32
              · obtain ⟨htk, hLt⟩ := HST.out (.inl (HDT.out.trans a1))
                have q' : ((d : Nat) : Int) = 32 := by omega
                rw [q'] at hct
                clear q'
                go_wp2
                go_roundw
                case rel => exact ⟨t, by omega, rfl, hLt, hbt⟩
                case measure => simp [intOf]; omega
              by_cases a2 : d = 9
              · obtain ⟨htk, hLt⟩ := HST.out (.inr (.inl (HDT.out.trans a2)))
                have q' : ((d : Nat) : Int) = 9 := by omega
                rw [q'] at hct
                clear q'
                go_wp2
                go_roundw
                case rel => exact ⟨t, by omega, rfl, hLt, hbt⟩
                case measure => simp [intOf]; omega
              have y3 : (((d : Nat) : Int) != 32) = true := bne_iff_ne.2 (by omega)
              have y4 : (((d : Nat) : Int) != 9) = true := bne_iff_ne.2 (by omega)
              go_wp2_with fail
              refine (break_from b off n c t ds wr hd htn hnc hn sd (hx.below hbt)).mono ?_
              rintro _ w5 ⟨rfl, hb5⟩
              have hb6 : Below wB.heap.size wB w5 := hbt.trans (hb5.mono hbt.size)
              obtain ⟨y, hy⟩ : ∃ y, brkAt ds t = y := ⟨_, rfl⟩
              rw [hy]
              have HY := veil hy
              clear hy hb5
              by_cases y0 : y = 0
              · have q' : ((y : Nat) : Int) = 0 := by omega
                rw [q']
                clear q'
                have HT' : Hid (∀ j, k ≤ j → j < t + 1 → ¬ WordStop ds j) := by
                  intro j h1 h2
                  by_cases hj : j = t
                  · rw [hj]
                    rintro (h | h | h)
                    · exact a1 (HDT.out.symm.trans h)
                    · exact a2 (HDT.out.symm.trans h)
                    · exact h (HY.out.trans y0)
                  · exact HT.out j h1 (by omega)
                go_wp2
                go_roundw
                case rel => exact ⟨t + 1, by omega, by omega, by go_num, HT'.out, hb6⟩
                case measure => simp [intOf]; omega
              · have z5 : (((y : Nat) : Int) == 0) = false := beq_eq_false_iff_ne.2 (by omega)
                obtain ⟨htk, hLt⟩ := HST.out (.inr (.inr (by rw [HY.out]; exact y0)))
                go_wp2
                go_roundw
                case rel => exact ⟨t, by omega, rfl, hLt, hb6⟩
                case measure => simp [intOf]; omega
            · have hLt : Leads ds t i := HLW.out t ⟨ht1, fun j h1 h2 => ⟨by have := hd.out; omega, HT.out j h1 h2⟩, fun h => by have := hd.out; omega⟩
              go_wp2
              go_roundw
              case rel => exact ⟨t, by omega, rfl, hLt, hbt⟩
              case measure => simp [intOf]; omega
      have hwn := not_or.1 hw
      have z6 : (((d : Nat) : Int) == 38) = false := beq_eq_false_iff_ne.2 (by omega)
      have z7 : (((d : Nat) : Int) == 33) = false := beq_eq_false_iff_ne.2 (by omega)
      have HR : Hid (Reads ds k none) := Reads.rdOther hkl.out (by rw [HDK.out]; omega) HX0.out
      clear hw hwn
      go_wp2
      go_ret2
      exact ⟨hL.none HR.out, hfin⟩
    · go_wp2
      go_ret2
      exact ⟨hL.none (.rdEnd (by have := hd.out; omega)), hbx0.trans (hbw.mono (Nat.le_of_lt hwz))⟩
end Go.Proofs.Qxb6619736a

/-
  WALK: FnStepsGivesAFreshListEachCall.
-/
import Derived.Test.Qxb6619706aBuild
import Derived.Test.Qxb6619706aBytesB
import Derived.Test.Qxb6619706aBig
namespace Go.Proofs.Qxb6619706a
open Go.RowKit

theorem toobig_at (a0 a1 a2 : Option Addr) (n0 n1 n2 c0 c1 c2 : Nat) (ks ns : List ByteArray) (L : List Lst) (q : ByteArray) (s : Stp) (w : World) (hl0 : Hid (ks.length = n0)) (hl1 : Hid (ns.length = n1)) (hl2 : Hid (L.length = n2))
    (h0 : StrsAt w a0 ks) (h1 : StrsAt w a1 ns) (h2 : ListsAt w a2 L) (f0 : StrsFit 1048576 ks) (f1 : StrsFit 1048576 ns) (f2 : ListsFit 1048576 L) (f3 : q.size ≤ 1048576) (f4 : StpFits 1048576 s) :
    Calls Try.prog 6 #[.slice a0 n0 c0, .slice a1 n1 c1, .slice a2 n2 c2, .string q, .agg #[.string s.tok, .string s.fau, .int .i64 s.st, .string s.ra, .string s.bod]] w (Says w) := by
  have e0 := hl0.out
  have e1 := hl1.out
  have e2 := hl2.out
  subst e0 e1 e2
  exact toobig_any a0 a1 a2 c0 c1 c2 ks ns L q s w h0 h1 h2 f0 f1 f2 f3 f4

theorem ListsFit.mono {m m' : Nat} (h : m ≤ m') {L : List Lst} (hL : ListsFit m L) : ListsFit m' L :=
  ⟨Nat.le_trans hL.1 h, fun l hl => ⟨Nat.le_trans (hL.2 l hl).1 h, fun s hs => ⟨Nat.le_trans ((hL.2 l hl).2 s hs).tok h, Nat.le_trans ((hL.2 l hl).2 s hs).fau h, Nat.le_trans ((hL.2 l hl).2 s hs).ra h, Nat.le_trans ((hL.2 l hl).2 s hs).bod h⟩⟩⟩
theorem none_fits : StpFits 1048576 Stp.none := ⟨Nat.zero_le _, Nat.zero_le _, Nat.zero_le _, Nat.zero_le _⟩

/-- How long the wanted list may be, and how long its strings. -/
theorem wanted_fits {ns : List ByteArray} {L : List Lst} {n : Nat} {q : ByteArray} {m : Nat} (hL : ListsFit m L) : (wanted ns L n q).length ≤ m ∧ ∀ s ∈ wanted ns L n q, s.size ≤ m := by
  unfold wanted
  split
  · exact ⟨Nat.zero_le _, by simp⟩
  · by_cases h : (lastTo ns q n).toNat < L.length
    · have hf := hL.2 _ (lst_mem h)
      refine ⟨by rw [toks_len]; exact hf.1, fun s hs => ?_⟩
      simp only [toks, List.mem_map] at hs
      obtain ⟨x, hx, rfl⟩ := hs
      exact (hf.2 x hx).tok
    · have e : L.getD (lastTo ns q n).toNat Lst.none = Lst.none := by
        simp [List.getD, List.getElem?_eq_none (show L.length ≤ (lastTo ns q n).toNat by omega)]
      rw [e]
      exact ⟨Nat.zero_le _, by simp [Lst.none, toks]⟩

theorem Own.form {B : Nat} {w : World} {v : Value} {T : List ByteArray} (h : Own B w v T) (hn : T = [] → v = .slice none 0 0) :
    ∃ ad cap, v = .slice ad T.length cap ∧ StrsAt w ad T ∧ ad.isNone = (T.length == 0) ∧ (0 < T.length → ∃ g, ad = some ⟨g, 0, none⟩ ∧ B ≤ g ∧ ∀ j, w.frozen? ⟨g, j, none⟩ = false) := by
  by_cases hT : T = []
  · subst hT
    exact ⟨none, 0, hn rfl, fun j hj => by simp at hj, rfl, fun h => by simp at h⟩
  · rcases h.shape with ⟨_, e⟩ | ⟨g, cap, e, hB, _, hs, hf⟩
    · exact absurd e hT
    · refine ⟨_, cap, e, hs, ?_, fun _ => ⟨g, rfl, hB, hf⟩⟩
      have : T.length ≠ 0 := fun h => hT (List.eq_nil_of_length_eq_zero h)
      symm
      simpa using this

/-- The row that is written over: at each place a string; from k on none longer than 1048576. -/
def Over (w : World) (a : Option Addr) (B n k : Nat) : Prop := ∀ j, j < n → ∃ g s, a = some ⟨g, 0, none⟩ ∧ B ≤ g ∧ w.cell? ⟨g, j, none⟩ = some (.string s) ∧ w.frozen? ⟨g, j, none⟩ = false ∧ (k ≤ j → s.size ≤ 1048576)
theorem Over.set {w : World} {a : Option Addr} {B n k g : Nat} (h : Over w a B n k) (ha : a = some ⟨g, 0, none⟩) (s : ByteArray) : Over (w.setCell ⟨g, k, none⟩ (.string s)) a B n (k + 1) := by
  intro j hj
  obtain ⟨g', s', ha', hB, hc, hf, hs⟩ := h j hj
  have e : g' = g := by
    rw [ha] at ha'
    injection ha' with ha'
    injection ha' with ha'
    exact ha'.symm
  subst e
  have hf' : (w.setCell ⟨g', k, none⟩ (.string s)).frozen? ⟨g', j, none⟩ = false := by
    rw [World.frozen?_setCell]; exact hf
  by_cases hjk : j = k
  · subst hjk
    exact ⟨g', s, ha, hB, World.cell?_setCell_same w _ _ hc, hf', fun h => by omega⟩
  · refine ⟨g', s', ha, hB, ?_, hf', fun h => hs (by omega)⟩
    rw [World.cell?_setCell_other w _ _ _ (by simp)]
    exact hc

set_option maxRecDepth 100000 in
set_option maxHeartbeats 1000000 in
theorem walkFresh (a0 a1 a2 : Option Addr) (c0 c1 c2 : Nat) (ks ns : List ByteArray) (L : List Lst) (q : ByteArray) (w : World)
    (h0 : StrsAt w a0 ks) (h1 : StrsAt w a1 ns) (h2 : ListsAt w a2 L) (f0 : StrsFit maxLen ks) (f1 : StrsFit maxLen ns) (f2 : ListsFit maxLen L) (f3 : q.size ≤ maxLen) :
    Calls Try.prog 4 #[.slice a0 ks.length c0, .slice a1 ns.length c1, .slice a2 L.length c2, .string q] w fun e w' => e = .returned (.bool true) ∧ Below w.heap.size w w' := by
  have HB : Hid (Below w.heap.size w w) := Below.refl _ _
  go_enter Try.func4, Try.ntmps4
  go_wp2_with fail
  refine (bytes15 a0 a1 a2 c0 c1 c2 ks ns L q _ h0 h1 h2 f0 f1 f2 f3).mono ?_
  rintro e w0 ⟨r, rfl, hr, rfl⟩
  cases r
  · go_wp2
    go_ret
    exact ⟨rfl, HB.out⟩
  obtain ⟨g0, g1, g2, g3⟩ := hr rfl
  clear hr HB
  have hl0 : Hid (ks.length = ks.length) := rfl
  have hk0 := g0.1
  have hk1 := g1.1
  have hk2 := g2.1
  obtain ⟨n0, e0⟩ : ∃ n0, n0 = ks.length := ⟨_, rfl⟩
  obtain ⟨n1, e1⟩ : ∃ n1, n1 = ns.length := ⟨_, rfl⟩
  obtain ⟨n2, e2⟩ : ∃ n2, n2 = L.length := ⟨_, rfl⟩
  rw [← e0, ← e1, ← e2]
  rw [← e0] at hk0
  rw [← e1] at hk1
  rw [← e2] at hk2
  have HL0 : Hid (ks.length = n0) := e0.symm
  have HL1 : Hid (ns.length = n1) := e1.symm
  have HL2 : Hid (L.length = n2) := e2.symm
  clear e0 e1 e2 hl0
  go_wp2_with fail
  refine (toobig_at a0 a1 a2 n0 n1 n2 c0 c1 c2 ks ns L q Stp.none _ HL0 HL1 HL2 h0 h1 h2 g0 g1 g2 g3 none_fits).mono ?_
  rintro e w1 ⟨r, rfl, hb1⟩
  cases r
  case true =>
    go_wp2
    go_ret
    exact ⟨rfl, hb1⟩
  go_wp2_with fail
  refine (pairs_any a1 a2 n1 n2 c1 c2 hk1 hk2 _).mono ?_
  rintro e w1' ⟨rfl, rfl⟩
  obtain ⟨n, hn⟩ : ∃ n, n = min n1 n2 := ⟨_, rfl⟩
  have hn1 : n ≤ n1 := by omega
  have hn2 : n ≤ n2 := by omega
  rw [← hn]
  clear hn
  have gL := g2.mono (show 1048576 ≤ 1048577 by omega)
  have h0' := h0.below hb1
  have h1' := h1.below hb1
  have h2' := h2.below hb1
  go_wp2_with fail
  refine (build_any a0 a1 a2 n0 n1 n2 c0 c1 c2 n ks ns L _ HL0 HL1 HL2 hk0 hk1 hn1 hn2 h0' h1' h2' gL f1.2).mono ?_
  rintro e w2 ⟨bp, rfl, hp, hb2⟩
  have h1'' := h1'.below hb2
  have h2'' := h2'.below hb2
  go_wp2_with fail
  refine (model_any a1 a2 n1 n2 c1 c2 n ns L q _ HL1 HL2 hk1 hn1 hn2 h1'' h2'' gL).mono ?_
  rintro e w3 ⟨vW, rfl, hW, hWn, hb3⟩
  have hp3 := hp.below hb3
  go_wp2_with fail
  refine (steps_any bp n ns L q _ f3 hp3 gL).mono ?_
  rintro e w4 ⟨vA, rfl, hA, hAn, hb4⟩
  have hw13 : Below w0.heap.size w0 w3 := by
    have z1 := hb1.size
    have z2 := hb2.size
    exact (hb1.trans (hb2.mono z1)).trans (hb3.mono (by omega))
  have hTf := wanted_fits (ns := ns) (n := n) (q := q) g2
  have HT : Hid (∀ w bp, PlanAt w bp n ns L → True) := fun _ _ _ => trivial
  have hz3 := hw13.size
  have hW4 := hW.below hb4
  clear hp h0' h1' h2' h1'' h2'' hb1 hb2 hb3 HT
  obtain ⟨aW, cW, hvW, hWs, _, _⟩ := hW4.form hWn
  obtain ⟨aA, cA, hvA, hAs, hAi, hAw⟩ := hA.form hAn
  generalize hT : wanted ns L n q = T at *
  have HTT := veil hT
  have hWnil := hWn
  clear hT hWn hAn hA hW4
  obtain ⟨nT, e⟩ : ∃ nT, nT = T.length := ⟨_, rfl⟩
  rw [← e] at hvW hvA hAi hAw hTf
  have HnT : Hid (T.length = nT) := e.symm
  clear e
  have hnT := hTf.1
  rw [hvA, hvW]
  have HvW := veil hvW
  clear hvA hvW
  go_wp2_with fail
  refine (same_any aA aW nT cA cW T _ HnT (by omega) hAi hAs hWs).mono ?_
  rintro e w5 ⟨rfl, m, rfl⟩
  have hov : Over (w4.drewN m) aA w3.heap.size nT 0 := by
    intro j hj
    obtain ⟨g, ha, hB, hf⟩ := hAw (by omega)
    obtain ⟨b, off, ha', hc⟩ := hAs j (by rw [HnT.out]; exact hj)
    rw [ha] at ha'
    injection ha' with ha'
    injection ha' with e1 e2
    subst e1 e2
    rw [Nat.zero_add] at hc
    exact ⟨g, _, ha, hB, hc, hf j, fun _ => hTf.2 _ (mem_getD (by rw [HnT.out]; exact hj))⟩
  have hb5 := below_drewN hb4 m
  clear hAs hWs hAw hAi hb4
  go_wp2
  go_loopw [13] (fun i wr => ∃ k : Nat, k ≤ nT ∧ i = .int .i64 (k : Int) ∧ Over wr aA w3.heap.size nT k ∧ Below w3.heap.size w3 wr) (fun i _ => nT - (intOf i).toNat)
  case atStart => exact ⟨0, Nat.zero_le _, rfl, hov, hb5⟩
  case round =>
    clear hov hb5
    obtain ⟨k, hk, rfl, hov, hb5⟩ := hrel
    by_cases hkl : k < nT
    · obtain ⟨g, s, rfl, hB, hc, hf, hs⟩ := hov k hkl
      have hs' := hs (Nat.le_refl _)
      clear hs
      go_wp2
      go_roundw
      case rel => exact ⟨k + 1, by omega, by go_num, hov.set rfl _, hb5.setCell hB _⟩
      case measure => simp [intOf]; omega
    · have hp5 := hp3.below hb5
      have hW5 := hW.below hb5
      have hbw := hw13.trans (hb5.mono hz3)
      clear hov
      go_wp2_with fail
      refine (steps_any bp n ns L q _ f3 hp5 gL).mono ?_
      rintro e w6 ⟨vB, rfl, hB, hBn, hb6⟩
      rw [HTT.out] at hB hBn
      have hW6 := hW5.below hb6
      have hWn : T = [] → vW = .slice none 0 0 := fun h => by
        rcases hW6.shape with ⟨e, _⟩ | ⟨g, cap, e, _⟩
        · exact e
        · exact hWnil h
      obtain ⟨aB, cB, hvB, hBs, hBi, _⟩ := hB.form hBn
      obtain ⟨aW2, cW2, hvW2, hWs2, _, _⟩ := hW6.form hWn
      rw [HnT.out] at hvB hBi hvW2
      have haW : aW = aW2 ∧ cW = cW2 := by
        have := HvW.out.symm.trans hvW2
        injection this with x1 x2 x3
        exact ⟨x1, x3⟩
      obtain ⟨rfl, rfl⟩ := haW
      rw [hvB]
      clear hvB hvW2 hB hW6 hWn
      have hbw6 := hbw.trans (hb6.mono hbw.size)
      go_wp2_with fail
      refine (same_any aB aW nT cB cW T _ HnT (by omega) hBi hBs hWs2).mono ?_
      rintro e w7 ⟨rfl, m2, rfl⟩
      go_wp2
      go_ret
      exact ⟨rfl, below_drewN hbw6 _⟩
end Go.Proofs.Qxb6619706a

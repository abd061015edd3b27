/-
  THE ARGUMENTS OPENED: from what the row says of their reading to the views that the walks ask for.
-/
import Derived.Test.Qxb6619706aKit
import Derived.ProofKit
import Derived.OpenShut
import Derived.ShutString
import Derived.ChangeOld
import Derived.SliceStrings
import Derived.Deep.Slices
namespace Go.Proofs.Qxb6619706a
open Go.ChangeShapes Go.WideShapes Go.ChangeAt Go.RowKit Go.Deep

theorem cells9 : Try.prog.cellsOf 9 = 1 := by kernel_rfl
theorem cells3 : Try.prog.cellsOf 3 = 1 := by kernel_rfl
theorem cells25 : Try.prog.cellsOf 25 = 5 := by kernel_rfl
theorem cells29 : Try.prog.cellsOf 29 = 1 := by kernel_rfl

section
variable {H : Type} {enc : TypeId × Value → H} {W : World} {fuel : Nat} {x : DataW H × List MemPlace}

/-- A slice of strings that came in. -/
theorem open_strs {a0 : Option Addr} {len cap : Nat} (hf : DataW.trod enc Try.prog W 0 (fun _ => true) true fuel 22 (Value.slice a0 len cap).cells.toList = some x) :
    ∃ ss : List ByteArray, ss.length = len ∧ StrsFit maxLen ss ∧ StrsAt W a0 ss := by
  rcases open_strings Try.underlying22 Try.underlying9 cells9 hf with ⟨hcs, _⟩ | ⟨a, len', cap', ss, hcs, _, hl, hm, hz, _, hcell, hws⟩
  · simp [Value.cells] at hcs
    obtain ⟨rfl, rfl, rfl⟩ := hcs
    exact ⟨[], rfl, ⟨Nat.zero_le _, by simp⟩, fun j hj => by simp at hj⟩
  · simp [Value.cells] at hcs
    obtain ⟨rfl, rfl, rfl⟩ := hcs
    simp only [if_true] at hz
    refine ⟨ss.take len, by simp; omega, ⟨by simp; omega, fun s hs => hws s (List.mem_of_mem_take hs)⟩, ?_⟩
    intro j hj
    simp at hj
    obtain ⟨b, off, spot⟩ := a
    have hspot : spot = none := by simpa [Addr.add] using World.cell?_spot (hcell 0 (by omega))
    subst hspot
    have := hcell j (by omega)
    rw [add_plain] at this
    refine ⟨b, off, rfl, this.trans ?_⟩
    simp [List.getD, show j < len by omega]

/-- A step. -/
theorem open_stp {cs : List Value} (h : DataW.trod enc Try.prog W 0 (fun _ => true) true fuel 25 cs = some x) : ∃ s : Stp, cs = s.row ∧ StpFits maxLen s := by
  obtain ⟨xs, n, _, _, hl, hlen, hf⟩ := DataW.trod_struct Try.underlying25 h
  rw [cells25] at hl
  match cs, hl with
  | [v0, v1, v2, v3, v4], _ =>
    match xs, hlen with
    | [y0, y1, y2, y3, y4], _ =>
      have g0 := hf 0 _ rfl
      have g1 := hf 1 _ rfl
      have g2 := hf 2 _ rfl
      have g3 := hf 3 _ rfl
      have g4 := hf 4 _ rfl
      simp [cells9, cells3] at g0 g1 g2 g3 g4
      obtain ⟨s0, e0, _, z0⟩ := DataW.trod_string Try.underlying9 g0
      obtain ⟨s1, e1, _, z1⟩ := DataW.trod_string Try.underlying9 g1
      obtain ⟨n2, e2, _, _⟩ := DataW.trod_int Try.underlying3 g2
      obtain ⟨s3, e3, _, z3⟩ := DataW.trod_string Try.underlying9 g3
      obtain ⟨s4, e4, _, z4⟩ := DataW.trod_string Try.underlying9 g4
      simp only [List.cons.injEq, and_true] at e0 e1 e2 e3 e4
      subst e0 e1 e2 e3 e4
      exact ⟨⟨s0, s1, n2, s3, s4⟩, rfl, z0, z1, z3, z4⟩

/-- A list of steps. -/
theorem open_steps {v : Value} (h : DataW.trod enc Try.prog W 0 (fun _ => true) true fuel 29 [v] = some x) :
    ∃ l : Lst, v = .slice l.a l.xs.length l.cap ∧ l.xs.length ≤ maxLen ∧ (∀ s ∈ l.xs, StpFits maxLen s) ∧ StepsAt W l.a l.xs := by
  rcases open_slice Try.underlying29 h with ⟨hcs, _⟩ | ⟨a, len, cap, m, n, D, Pl, hcs, _, hl, hm, hmm, _, hx⟩
  · simp only [List.cons.injEq, and_true] at hcs
    exact ⟨⟨none, 0, []⟩, hcs, Nat.zero_le _, by simp, fun j hj => by simp at hj⟩
  · simp only [List.cons.injEq, and_true] at hcs
    simp only [if_true] at hmm
    rw [cells25] at hx
    have _inst : Inhabited Stp := ⟨Stp.none⟩
    obtain ⟨S, hS⟩ := choose_lt (α := Stp) (n := len) (p := fun i s => (∀ k, k < 5 → W.cell? ((a.add (i * 5)).add k) = s.row[k]?) ∧ StpFits maxLen s) (fun i hi => by
      obtain ⟨cs', h1, h2⟩ := hx i (by omega)
      obtain ⟨s, rfl, hs⟩ := open_stp h2
      obtain ⟨_, hlen, hc⟩ := World.cells?_some h1
      exact ⟨s, fun k hk => hc k hk, hs⟩)
    refine ⟨⟨some a, cap, (List.range len).map S⟩, by simpa using hcs, by simp; omega, ?_, ?_⟩
    · intro s hs
      simp only [List.mem_map, List.mem_range] at hs
      obtain ⟨i, hi, rfl⟩ := hs
      exact (hS i hi).2
    · intro j hj
      simp only [List.length_map, List.length_range] at hj
      obtain ⟨b, off, spot⟩ := a
      have h00 := (hS 0 (by omega)).1 0 (by omega)
      have hspot : spot = none := by
        have : W.cell? ((Addr.add ⟨b, off, spot⟩ (0 * 5)).add 0) = some (.string (S 0).tok) := h00
        simpa [Addr.add] using World.cell?_spot this
      subst hspot
      refine ⟨b, off, rfl, ?_⟩
      have e : ((List.range len).map S).getD j Stp.none = S j := by simp [List.getD, hj]
      rw [e]
      have hc := (hS j hj).1
      have hadd : ∀ k, (Addr.add ⟨b, off, none⟩ (j * 5)).add k = ⟨b, off + j * 5 + k, none⟩ := fun k => by rw [add_plain, add_plain]
      simp only [hadd] at hc
      exact ⟨hc 0 (by omega), hc 1 (by omega), hc 2 (by omega), hc 3 (by omega), hc 4 (by omega)⟩

/-- A slice of lists of steps. -/
theorem open_lists {a0 : Option Addr} {len cap : Nat} (hf : DataW.trod enc Try.prog W 0 (fun _ => true) true fuel 23 (Value.slice a0 len cap).cells.toList = some x) :
    ∃ L : List Lst, L.length = len ∧ ListsFit maxLen L ∧ ListsAt W a0 L := by
  rcases open_slice1 Try.underlying23 cells29 hf with ⟨hcs, _⟩ | ⟨a, len', cap', m, n, V, D, Pl, hcs, _, hl, hm, hmm, _, hx⟩
  · simp [Value.cells] at hcs
    obtain ⟨rfl, rfl, rfl⟩ := hcs
    exact ⟨[], rfl, ⟨Nat.zero_le _, by simp⟩, fun j hj => by simp at hj⟩
  · simp [Value.cells] at hcs
    obtain ⟨rfl, rfl, rfl⟩ := hcs
    simp only [if_true] at hmm
    have _inst : Inhabited Lst := ⟨Lst.none⟩
    obtain ⟨S, hS⟩ := choose_lt (α := Lst) (n := len) (p := fun i l => W.cell? (a.add i) = some (.slice l.a l.xs.length l.cap) ∧ (l.xs.length ≤ maxLen ∧ ∀ s ∈ l.xs, StpFits maxLen s) ∧ StepsAt W l.a l.xs) (fun i hi => by
      obtain ⟨h1, h2⟩ := hx i (by omega)
      obtain ⟨l, e, z1, z2, z3⟩ := open_steps h2
      exact ⟨l, by rw [h1, e], ⟨z1, z2⟩, z3⟩)
    refine ⟨(List.range len).map S, by simp, ⟨by simp; omega, ?_⟩, ?_⟩
    · intro l hl
      simp only [List.mem_map, List.mem_range] at hl
      obtain ⟨i, hi, rfl⟩ := hl
      exact (hS i hi).2.1
    · intro j hj
      simp only [List.length_map, List.length_range] at hj
      obtain ⟨b, off, spot⟩ := a
      have hspot : spot = none := by simpa [Addr.add] using World.cell?_spot (hS 0 (by omega)).1
      subst hspot
      have e : ((List.range len).map S).getD j Lst.none = S j := by simp [List.getD, hj]
      rw [e]
      have h1 := (hS j hj).1
      rw [add_plain] at h1
      exact ⟨⟨b, off, rfl, h1⟩, (hS j hj).2.2⟩
end
end Go.Proofs.Qxb6619706a

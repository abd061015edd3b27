/-
  THE PLAIN READING: what both sides answer.
-/
import Derived.Test.Qxb6619736aBreak
namespace Go.Proofs.Qxb6619736a
open Go.RowKit

/-- e is the first place at or after p that stops. -/
def FirstStop (stop : Nat → Prop) (len p e : Nat) : Prop := p ≤ e ∧ (∀ j, p ≤ j → j < e → j < len ∧ ¬ stop j) ∧ (e < len → stop e)
theorem FirstStop.uniq {s : Nat → Prop} {l p e e' : Nat} (h : FirstStop s l p e) (h' : FirstStop s l p e') : e = e' := by
  rcases Nat.lt_trichotomy e e' with h1 | h1 | h1
  · have := h'.2.1 e h.1 h1
    exact absurd (h.2.2 this.1) this.2
  · exact h1
  · have := h.2.1 e' h'.1 h1
    exact absurd (h'.2.2 this.1) this.2
theorem FirstStop.le {s : Nat → Prop} {l p e : Nat} (h : FirstStop s l p e) (hp : p ≤ l) : e ≤ l := by
  by_cases h1 : p < e
  · have := (h.2.1 (e - 1) (by omega) (by omega)).1
    omega
  · have := h.1
    omega
def LineStop (ds : List Nat) (j : Nat) : Prop := brkAt ds j ≠ 0
def WordStop (ds : List Nat) (j : Nat) : Prop := ds.getD j 0 = 32 ∨ ds.getD j 0 = 9 ∨ brkAt ds j ≠ 0

/-- P is shut under the steps of the reading. -/
structure ReadShut (ds : List Nat) (P : Nat → Option Nat → Prop) : Prop where
  rdEnd : ∀ i, ds.length ≤ i → P i none
  rdHit : ∀ i, i < ds.length → (ds.getD i 0 = 124 ∨ ds.getD i 0 = 62) → P i (some i)
  rdBlank : ∀ i r, i < ds.length → (ds.getD i 0 = 32 ∨ ds.getD i 0 = 9) → P (i + 1) r → P i r
  rdBrk : ∀ i r, brkAt ds i ≠ 0 → P (i + brkAt ds i) r → P i r
  rdNote : ∀ i e r, i < ds.length → ds.getD i 0 = 35 → FirstStop (LineStop ds) ds.length i e → P e r → P i r
  rdWord : ∀ i e r, i < ds.length → (ds.getD i 0 = 38 ∨ ds.getD i 0 = 33) → FirstStop (WordStop ds) ds.length i e → P e r → P i r
  rdOther : ∀ i, i < ds.length → (ds.getD i 0 ≠ 124 ∧ ds.getD i 0 ≠ 62 ∧ ds.getD i 0 ≠ 32 ∧ ds.getD i 0 ≠ 9 ∧ ds.getD i 0 ≠ 35 ∧ ds.getD i 0 ≠ 38 ∧ ds.getD i 0 ≠ 33) → brkAt ds i = 0 → P i none
/-- Read from i on, ds answers r: the least relation that is shut under the steps. -/
def Reads (ds : List Nat) (i : Nat) (r : Option Nat) : Prop := ∀ P, ReadShut ds P → P i r
theorem Reads.rdEnd {ds : List Nat} {i : Nat} (h : ds.length ≤ i) : Reads ds i none := fun _ hP => hP.rdEnd i h
theorem Reads.rdHit {ds : List Nat} {i : Nat} (h : i < ds.length) (h2 : ds.getD i 0 = 124 ∨ ds.getD i 0 = 62) : Reads ds i (some i) := fun _ hP => hP.rdHit i h h2
theorem Reads.rdBlank {ds : List Nat} {i : Nat} {r : Option Nat} (h : i < ds.length) (h2 : ds.getD i 0 = 32 ∨ ds.getD i 0 = 9) (h3 : Reads ds (i + 1) r) : Reads ds i r := fun P hP => hP.rdBlank i r h h2 (h3 P hP)
theorem Reads.rdBrk {ds : List Nat} {i : Nat} {r : Option Nat} (h : brkAt ds i ≠ 0) (h3 : Reads ds (i + brkAt ds i) r) : Reads ds i r := fun P hP => hP.rdBrk i r h (h3 P hP)
theorem Reads.rdNote {ds : List Nat} {i e : Nat} {r : Option Nat} (h : i < ds.length) (h2 : ds.getD i 0 = 35) (h3 : FirstStop (LineStop ds) ds.length i e) (h4 : Reads ds e r) : Reads ds i r := fun P hP => hP.rdNote i e r h h2 h3 (h4 P hP)
theorem Reads.rdWord {ds : List Nat} {i e : Nat} {r : Option Nat} (h : i < ds.length) (h2 : ds.getD i 0 = 38 ∨ ds.getD i 0 = 33) (h3 : FirstStop (WordStop ds) ds.length i e) (h4 : Reads ds e r) : Reads ds i r := fun P hP => hP.rdWord i e r h h2 h3 (h4 P hP)
theorem Reads.rdOther {ds : List Nat} {i : Nat} (h : i < ds.length) (h2 : ds.getD i 0 ≠ 124 ∧ ds.getD i 0 ≠ 62 ∧ ds.getD i 0 ≠ 32 ∧ ds.getD i 0 ≠ 9 ∧ ds.getD i 0 ≠ 35 ∧ ds.getD i 0 ≠ 38 ∧ ds.getD i 0 ≠ 33) (h3 : brkAt ds i = 0) : Reads ds i none := fun _ hP => hP.rdOther i h h2 h3
/-- One step of the reading, backwards. -/
def ReadBack (ds : List Nat) (i : Nat) (r : Option Nat) : Prop :=
  (ds.length ≤ i ∧ r = none) ∨ (i < ds.length ∧ (ds.getD i 0 = 124 ∨ ds.getD i 0 = 62) ∧ r = some i) ∨ (i < ds.length ∧ (ds.getD i 0 = 32 ∨ ds.getD i 0 = 9) ∧ Reads ds (i + 1) r)
  ∨ (brkAt ds i ≠ 0 ∧ Reads ds (i + brkAt ds i) r) ∨ (i < ds.length ∧ ds.getD i 0 = 35 ∧ ∃ e, FirstStop (LineStop ds) ds.length i e ∧ Reads ds e r)
  ∨ (i < ds.length ∧ (ds.getD i 0 = 38 ∨ ds.getD i 0 = 33) ∧ ∃ e, FirstStop (WordStop ds) ds.length i e ∧ Reads ds e r)
  ∨ (i < ds.length ∧ (ds.getD i 0 ≠ 124 ∧ ds.getD i 0 ≠ 62 ∧ ds.getD i 0 ≠ 32 ∧ ds.getD i 0 ≠ 9 ∧ ds.getD i 0 ≠ 35 ∧ ds.getD i 0 ≠ 38 ∧ ds.getD i 0 ≠ 33) ∧ brkAt ds i = 0 ∧ r = none)
theorem Reads.back {ds : List Nat} {i : Nat} {r : Option Nat} (h : Reads ds i r) : ReadBack ds i r := by
  refine (h (fun i r => Reads ds i r ∧ ReadBack ds i r) ⟨?_, ?_, ?_, ?_, ?_, ?_, ?_⟩).2
  · exact fun i h => ⟨.rdEnd h, .inl ⟨h, rfl⟩⟩
  · exact fun i h h2 => ⟨.rdHit h h2, .inr (.inl ⟨h, h2, rfl⟩)⟩
  · exact fun i r h h2 h3 => ⟨.rdBlank h h2 h3.1, .inr (.inr (.inl ⟨h, h2, h3.1⟩))⟩
  · exact fun i r h h3 => ⟨.rdBrk h h3.1, .inr (.inr (.inr (.inl ⟨h, h3.1⟩)))⟩
  · exact fun i e r h h2 h3 h4 => ⟨.rdNote h h2 h3 h4.1, .inr (.inr (.inr (.inr (.inl ⟨h, h2, e, h3, h4.1⟩))))⟩
  · exact fun i e r h h2 h3 h4 => ⟨.rdWord h h2 h3 h4.1, .inr (.inr (.inr (.inr (.inr (.inl ⟨h, h2, e, h3, h4.1⟩)))))⟩
  · exact fun i h h2 h3 => ⟨.rdOther h h2 h3, .inr (.inr (.inr (.inr (.inr (.inr ⟨h, h2, h3, rfl⟩)))))⟩
theorem Reads.uniq {ds : List Nat} {i : Nat} {r : Option Nat} (h : Reads ds i r) : ∀ r', Reads ds i r' → r = r' := by
  refine h (fun i r => ∀ r', Reads ds i r' → r = r') ⟨?_, ?_, ?_, ?_, ?_, ?_, ?_⟩
  · intro i h1 r' h'
    have hp : brkAt ds i ≠ 0 → _ := brkAt_pos
    rcases h'.back with ⟨_, e⟩ | ⟨_, _, _⟩ | ⟨_, _, _⟩ | ⟨_, _⟩ | ⟨_, _, _⟩ | ⟨_, _, _⟩ | ⟨_, _, _, e⟩
    all_goals first | exact e.symm | (exfalso; omega)
  · intro i h1 h2 r' h'
    have hp : brkAt ds i ≠ 0 → _ := brkAt_pos
    rcases h'.back with ⟨_, _⟩ | ⟨_, _, e⟩ | ⟨_, _, _⟩ | ⟨_, _⟩ | ⟨_, _, _⟩ | ⟨_, _, _⟩ | ⟨_, _, _, _⟩
    all_goals first | exact e.symm | (exfalso; omega)
  · intro i r h1 h2 ih r' h'
    have hp : brkAt ds i ≠ 0 → _ := brkAt_pos
    rcases h'.back with ⟨_, _⟩ | ⟨_, _, _⟩ | ⟨_, _, e⟩ | ⟨_, _⟩ | ⟨_, _, _⟩ | ⟨_, _, _⟩ | ⟨_, _, _, _⟩
    all_goals first | exact ih _ e | (exfalso; omega)
  · intro i r h1 ih r' h'
    have hp := brkAt_pos h1
    rcases h'.back with ⟨_, _⟩ | ⟨_, _, _⟩ | ⟨_, _, _⟩ | ⟨_, e⟩ | ⟨_, _, _⟩ | ⟨_, _, _⟩ | ⟨_, _, _, _⟩
    all_goals first | exact ih _ e | (exfalso; omega)
  · intro i x r h1 h2 h3 ih r' h'
    have hp : brkAt ds i ≠ 0 → _ := brkAt_pos
    rcases h'.back with ⟨_, _⟩ | ⟨_, _, _⟩ | ⟨_, _, _⟩ | ⟨_, _⟩ | ⟨_, _, y, k3, k4⟩ | ⟨_, _, _⟩ | ⟨_, _, _, _⟩
    all_goals first | exact ih _ (by rw [h3.uniq k3]; exact k4) | (exfalso; omega)
  · intro i x r h1 h2 h3 ih r' h'
    have hp : brkAt ds i ≠ 0 → _ := brkAt_pos
    rcases h'.back with ⟨_, _⟩ | ⟨_, _, _⟩ | ⟨_, _, _⟩ | ⟨_, _⟩ | ⟨_, _, _⟩ | ⟨_, _, y, k3, k4⟩ | ⟨_, _, _, _⟩
    all_goals first | exact ih _ (by rw [h3.uniq k3]; exact k4) | (exfalso; omega)
  · intro i h1 h2 h3 r' h'
    have hp : brkAt ds i ≠ 0 → _ := brkAt_pos
    rcases h'.back with ⟨_, _⟩ | ⟨_, _, _⟩ | ⟨_, _, _⟩ | ⟨_, _⟩ | ⟨_, _, _⟩ | ⟨_, _, _⟩ | ⟨_, _, _, e⟩
    all_goals first | exact e.symm | (exfalso; omega)

/-- The answer as Go's two results. -/
def twoOf : Option Nat → Value
  | none => .tuple #[.int .i64 0, .bool false]
  | some k => .tuple #[.int .i64 (k : Int), .bool true]
/-- The call ends with an answer that reading ds from i on gives. -/
def Tells (ds : List Nat) (i : Nat) (e : Ending) : Prop := ∃ r, Reads ds i r ∧ e = .returned (twoOf r)
/-- What holds from k on holds from i on. -/
def Leads (ds : List Nat) (k i : Nat) : Prop := ∀ r, Reads ds k r → Reads ds i r
theorem Leads.refl (ds : List Nat) (i : Nat) : Leads ds i i := fun _ h => h
theorem Leads.trans {ds : List Nat} {a b c : Nat} (h : Leads ds a b) (h' : Leads ds b c) : Leads ds a c := fun r hr => h' r (h r hr)
theorem Leads.none {ds : List Nat} {k i : Nat} (h : Leads ds k i) (hk : Reads ds k none) : Tells ds i (.returned (.tuple #[.int .i64 0, .bool false])) := ⟨.none, h _ hk, rfl⟩
theorem Leads.some {ds : List Nat} {k i : Nat} (h : Leads ds k i) (hk : Reads ds k (some k)) : Tells ds i (.returned (.tuple #[.int .i64 (k : Int), .bool true])) := ⟨_, h _ hk, rfl⟩

set_option maxRecDepth 100000 in
set_option maxHeartbeats 1000000 in
theorem lineend_any (ad : Option Addr) (n c p : Nat) (ds : List Nat) (w : World) (hd : Hid (ds.length = n)) (hn : n ≤ 1048576) (hp : p < n) (sd : Small ds) (h : BAt w ad ds) :
    Calls Try.prog 7 #[.slice ad n c, .int .i64 (p : Int)] w fun e w' => (∃ q : Nat, FirstStop (LineStop ds) n p q ∧ e = .returned (.int .i64 (q : Int))) ∧ w' = w := by
  go_enter Try.func7, Try.ntmps7
  go_wp2
  go_loop [5] (fun i => ∃ k : Nat, p ≤ k ∧ k ≤ n ∧ i = .int .i64 (k : Int) ∧ ∀ j, p ≤ j → j < k → brkAt ds j = 0) (fun i => n - (intOf i).toNat)
  case atStart => exact ⟨p, Nat.le_refl _, by omega, rfl, fun j h1 h2 => by omega⟩
  case round =>
    obtain ⟨k, hk1, hk2, rfl, hk3⟩ := hrel
    have HK := veil hk3
    clear hk3
    by_cases hkn : k < n
    · go_wp2_with fail
      refine (breakat_any ad n c k ds w hd hn (by omega) sd h).mono ?_
      rintro e w' ⟨rfl, rfl⟩
      have hB := brkAt_le ds k
      generalize hx : brkAt ds k = x at *
      have HX := veil hx
      clear hx
      by_cases hx0 : x = 0
      · subst hx0
        go_wp2
        go_round
        case rel => 
          refine ⟨k + 1, by omega, by omega, by go_num, fun j h1 h2 => ?_⟩
          by_cases hj : j = k
          · rw [hj]; exact HX.out
          · exact HK.out j h1 (by omega)
        case measure => simp [intOf]; omega
      · have z : ((x : Int) == 0) = false := beq_eq_false_iff_ne.2 (by omega)
        go_wp2
        go_ret
        exact ⟨⟨k, ⟨hk1, fun j h1 h2 => ⟨by omega, fun hs => hs (HK.out j h1 h2)⟩, fun _ => by show brkAt ds k ≠ 0; rw [HX.out]; exact hx0⟩, rfl⟩, rfl⟩
    · go_wp2
      go_ret
      exact ⟨⟨k, ⟨hk1, fun j h1 h2 => ⟨by omega, fun hs => hs (HK.out j h1 h2)⟩, fun h => absurd h hkn⟩, rfl⟩, rfl⟩
end Go.Proofs.Qxb6619736a

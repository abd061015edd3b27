/-
  PLAIN MATHEMATICS OF THE SEAT: a merge sort from below, pass by pass.
-/
import Derived.Test.Qxb6619603aPlain
namespace Go.Proofs.Qxb6619603a

def Sorted (l : List ByteArray) : Prop := l.Pairwise (fun a b => leB a b = true)

def piece (W : Nat) (A : List ByteArray) (m : Nat) : List ByteArray :=
  List.merge ((A.drop (2 * W * m)).take W) ((A.drop (2 * W * m + W)).take W) leB
def passTo (W : Nat) (A : List ByteArray) : Nat → List ByteArray
  | 0 => []
  | m + 1 => passTo W A m ++ piece W A m
def Blocks (W : Nat) (A : List ByteArray) : Prop := ∀ m, Sorted ((A.drop (W * m)).take W)

theorem piece_perm (W : Nat) (A : List ByteArray) (m : Nat) : (piece W A m).Perm ((A.drop (2 * W * m)).take (2 * W)) := by
  refine (List.merge_perm_append leB).trans ?_
  have e : (A.drop (2 * W * m)).take (2 * W) = (A.drop (2 * W * m)).take W ++ (A.drop (2 * W * m + W)).take W := by
    rw [show 2 * W = W + W by omega, List.take_add, List.drop_drop]
  rw [e]
theorem piece_length (W : Nat) (A : List ByteArray) (m : Nat) : (piece W A m).length = min (2 * W) (A.length - 2 * W * m) := by
  rw [(piece_perm W A m).length_eq]; simp
theorem piece_sorted (W : Nat) (A : List ByteArray) (m : Nat) (h : Blocks W A) : Sorted (piece W A m) := by
  refine List.pairwise_merge leB_trans leB_total _ _ ?_ ?_
  · have := h (2 * m); rwa [show W * (2 * m) = 2 * W * m by rw [← Nat.mul_assoc, Nat.mul_comm W 2]] at this
  · have := h (2 * m + 1); rwa [show W * (2 * m + 1) = 2 * W * m + W by rw [Nat.mul_add, ← Nat.mul_assoc, Nat.mul_comm W 2]; omega] at this
theorem passTo_perm (W : Nat) (A : List ByteArray) : ∀ m, (passTo W A m).Perm (A.take (2 * W * m))
  | 0 => by simp [passTo]
  | m + 1 => by
    rw [passTo, show 2 * W * (m + 1) = 2 * W * m + 2 * W by rw [Nat.mul_add]; omega, List.take_add]
    exact (passTo_perm W A m).append (piece_perm W A m)
theorem passTo_length (W : Nat) (A : List ByteArray) (m : Nat) : (passTo W A m).length = min (2 * W * m) A.length := by
  rw [(passTo_perm W A m).length_eq, List.length_take]
theorem passTo_split (W : Nat) (A : List ByteArray) (q : Nat) : ∀ r, ∃ R, passTo W A (q + 1 + r) = passTo W A q ++ piece W A q ++ R
  | 0 => ⟨[], by simp [passTo]⟩
  | r + 1 => by
    obtain ⟨R, h⟩ := passTo_split W A q r
    exact ⟨R ++ piece W A (q + 1 + r), by rw [← Nat.add_assoc, passTo, h]; simp⟩
theorem passTo_blocks (W : Nat) (A : List ByteArray) (h : Blocks W A) (M : Nat) (hM : A.length ≤ 2 * W * M) : Blocks (2 * W) (passTo W A M) := by
  intro q
  have hl := passTo_length W A M
  by_cases hq : q < M
  · obtain ⟨R, hR⟩ := passTo_split W A q (M - (q + 1))
    rw [show q + 1 + (M - (q + 1)) = M by omega] at hR
    by_cases hn : 2 * W * q ≤ A.length
    · have hlq := passTo_length W A q
      have hpq := piece_length W A q
      have ed : (passTo W A M).drop (2 * W * q) = piece W A q ++ R := by
        rw [hR, List.append_assoc, List.drop_append_of_le_length (by omega)]
        rw [List.drop_of_length_le (by omega)]; rfl
      rw [ed]
      by_cases hf : 2 * W ≤ (piece W A q).length
      · rw [List.take_append_of_le_length hf, List.take_of_length_le (by omega)]
        exact piece_sorted W A q h
      · have hR0 : R = [] := by
          have := congrArg List.length hR
          simp at this
          apply List.eq_nil_of_length_eq_zero
          omega
        rw [hR0, List.append_nil, List.take_of_length_le (by omega)]
        exact piece_sorted W A q h
    · rw [List.drop_of_length_le (by omega)]; simp [Sorted]
  · have : 2 * W * M ≤ 2 * W * q := Nat.mul_le_mul_left _ (by omega)
    rw [List.drop_of_length_le (by omega)]; simp [Sorted]
theorem blocks_one (A : List ByteArray) : Blocks 1 A := by
  intro m
  unfold Sorted
  match h : (A.drop (1 * m)).take 1 with
  | [] => simp
  | [_] => simp
  | _ :: _ :: _ => have := congrArg List.length h; simp at this; omega
theorem blocks_all {W : Nat} {A : List ByteArray} (h : Blocks W A) (hn : A.length ≤ W) : Sorted A := by
  have := h 0
  rwa [Nat.mul_zero, List.drop_zero, List.take_of_length_le hn] at this

/-! ### the innermost loop -/
abbrev e0 : ByteArray := ByteArray.empty

theorem drop_cons {X : List ByteArray} {x : Nat} (h : x < X.length) : X.drop x = X.getD x e0 :: X.drop (x + 1) := by
  rw [List.drop_eq_getElem_cons h]; simp [List.getD, h]
theorem head_of_drop {T : List ByteArray} {t : Nat} {u : ByteArray} {r : List ByteArray} (h : u :: r = T.drop t) : t < T.length ∧ T.getD t e0 = u ∧ r = T.drop (t + 1) := by
  have hl : t < T.length := by
    have := congrArg List.length h
    simp at this
    omega
  rw [drop_cons hl] at h
  injection h with h1 h2
  exact ⟨hl, h1.symm, h2⟩
theorem merge_left {X Y T : List ByteArray} {x y : Nat} (h : List.merge (X.drop x) (Y.drop y) leB = T.drop (x + y)) (hx : x < X.length) (hc : Y.length ≤ y ∨ leB (X.getD x e0) (Y.getD y e0) = true) :
    T.getD (x + y) e0 = X.getD x e0 ∧ List.merge (X.drop (x + 1)) (Y.drop y) leB = T.drop (x + y + 1) := by
  by_cases hy : y < Y.length
  · rcases hc with hc | hc
    · omega
    · rw [drop_cons hx, drop_cons hy, List.cons_merge_cons, if_pos hc] at h
      obtain ⟨_, h2, h3⟩ := head_of_drop h
      rw [drop_cons hy]
      exact ⟨h2, h3⟩
  · rw [List.drop_of_length_le (l := Y) (by omega)] at h ⊢
    rw [List.merge_right] at h ⊢
    rw [drop_cons hx] at h
    obtain ⟨_, h2, h3⟩ := head_of_drop h
    exact ⟨h2, h3⟩
theorem merge_right' {X Y T : List ByteArray} {x y : Nat} (h : List.merge (X.drop x) (Y.drop y) leB = T.drop (x + y)) (hy : y < Y.length) (hc : X.length ≤ x ∨ leB (X.getD x e0) (Y.getD y e0) = false) :
    T.getD (x + y) e0 = Y.getD y e0 ∧ List.merge (X.drop x) (Y.drop (y + 1)) leB = T.drop (x + y + 1) := by
  by_cases hx : x < X.length
  · rcases hc with hc | hc
    · omega
    · rw [drop_cons hx, drop_cons hy, List.cons_merge_cons, if_neg (by rw [hc]; exact Bool.false_ne_true)] at h
      obtain ⟨_, h2, h3⟩ := head_of_drop h
      rw [drop_cons hx]
      exact ⟨h2, h3⟩
  · rw [List.drop_of_length_le (l := X) (by omega)] at h ⊢
    rw [List.nil_merge] at h ⊢
    rw [drop_cons hy] at h
    obtain ⟨_, h2, h3⟩ := head_of_drop h
    exact ⟨h2, h3⟩

/-- What holds at the head of each round of the innermost loop: k places of B are right. -/
def MInv (W : Nat) (A : List ByteArray) (m : Nat) (mid hi k i j : Nat) (B : List ByteArray) : Prop :=
  mid = min (2 * W * m + W) A.length ∧ hi = min (2 * W * m + 2 * W) A.length ∧ 2 * W * m < A.length ∧ B.length = A.length ∧
  ∃ x y, i = 2 * W * m + x ∧ j = mid + y ∧ k = 2 * W * m + (x + y) ∧ i ≤ mid ∧ j ≤ hi ∧
    List.merge (((A.drop (2 * W * m)).take W).drop x) (((A.drop (2 * W * m + W)).take W).drop y) leB = (piece W A m).drop (x + y) ∧
    B.take k = passTo W A m ++ (piece W A m).take (x + y)

theorem minv_start {W : Nat} {A : List ByteArray} {m : Nat} {B : List ByteArray} (hn : 2 * W * m < A.length) (hB : B.length = A.length) (hp : B.take (2 * W * m) = passTo W A m) :
    MInv W A m (min (2 * W * m + W) A.length) (min (2 * W * m + 2 * W) A.length) (2 * W * m) (2 * W * m) (min (2 * W * m + W) A.length) B :=
  ⟨rfl, rfl, hn, hB, 0, 0, rfl, rfl, rfl, by omega, by omega, by simp [piece], by simp [hp]⟩

theorem take_set_snoc {B : List ByteArray} {k : Nat} (h : k < B.length) (u : ByteArray) : (B.set k u).take (k + 1) = B.take k ++ [u] := by
  rw [List.take_add_one, List.take_set_of_le (Nat.le_refl k)]
  simp [h]

theorem take_snoc' {T : List ByteArray} {t : Nat} (h : t < T.length) : T.take (t + 1) = T.take t ++ [T.getD t e0] := by
  rw [List.take_add_one]; simp [List.getD, h]

theorem minv_left {W : Nat} {A : List ByteArray} {m mid hi k i j : Nat} {B : List ByteArray} (h : MInv W A m mid hi k i j B) (hk : k < hi) (hi' : i < mid) (hc : hi ≤ j ∨ leB (A.getD i e0) (A.getD j e0) = true) :
    MInv W A m mid hi (k + 1) (i + 1) j (B.set k (A.getD i e0)) := by
  obtain ⟨hm, hh, hn, hB, x, y, rfl, rfl, rfl, h1, h2, h3, h4⟩ := h
  have hpl := piece_length W A m
  have hx : x < ((A.drop (2 * W * m)).take W).length := by simp; omega
  have hxA : ((A.drop (2 * W * m)).take W).getD x e0 = A.getD (2 * W * m + x) e0 := by
    simp only [List.length_take, List.length_drop] at hx
    simp only [List.getD, List.getElem?_take, List.getElem?_drop]
    rw [if_pos (by omega)]
  have hyc : ((A.drop (2 * W * m + W)).take W).length ≤ y ∨ leB (((A.drop (2 * W * m)).take W).getD x e0) (((A.drop (2 * W * m + W)).take W).getD y e0) = true := by
    by_cases hy : y < ((A.drop (2 * W * m + W)).take W).length
    · right
      simp only [List.length_take, List.length_drop] at hy
      have hyA : ((A.drop (2 * W * m + W)).take W).getD y e0 = A.getD (mid + y) e0 := by
        simp only [List.getD, List.getElem?_take, List.getElem?_drop]
        rw [if_pos (by omega), show 2 * W * m + W + y = mid + y by omega]
      rw [hxA, hyA]
      rcases hc with hc | hc
      · omega
      · exact hc
    · left; omega
  obtain ⟨r1, r2⟩ := merge_left h3 hx hyc
  refine ⟨hm, hh, hn, by simpa using hB, x + 1, y, by omega, rfl, by omega, by omega, h2, ?_, ?_⟩
  · rw [r2]; congr 1; omega
  · rw [take_set_snoc (by omega), h4, List.append_assoc, show x + 1 + y = (x + y) + 1 by omega, take_snoc' (by omega), r1, hxA]

theorem minv_right {W : Nat} {A : List ByteArray} {m mid hi k i j : Nat} {B : List ByteArray} (h : MInv W A m mid hi k i j B) (hk : k < hi) (hc : mid ≤ i ∨ (j < hi ∧ leB (A.getD i e0) (A.getD j e0) = false)) :
    j < hi ∧ MInv W A m mid hi (k + 1) i (j + 1) (B.set k (A.getD j e0)) := by
  obtain ⟨hm, hh, hn, hB, x, y, rfl, rfl, rfl, h1, h2, h3, h4⟩ := h
  have hpl := piece_length W A m
  have hj : mid + y < hi := by omega
  have hy : y < ((A.drop (2 * W * m + W)).take W).length := by simp; omega
  have hyA : ((A.drop (2 * W * m + W)).take W).getD y e0 = A.getD (mid + y) e0 := by
    simp only [List.getD, List.getElem?_take, List.getElem?_drop]
    rw [if_pos (by omega), show 2 * W * m + W + y = mid + y by omega]
  have hxc : ((A.drop (2 * W * m)).take W).length ≤ x ∨ leB (((A.drop (2 * W * m)).take W).getD x e0) (((A.drop (2 * W * m + W)).take W).getD y e0) = false := by
    by_cases hx : x < ((A.drop (2 * W * m)).take W).length
    · right
      simp only [List.length_take, List.length_drop] at hx
      have hxA : ((A.drop (2 * W * m)).take W).getD x e0 = A.getD (2 * W * m + x) e0 := by
        simp only [List.getD, List.getElem?_take, List.getElem?_drop]
        rw [if_pos (by omega)]
      rw [hxA, hyA]
      rcases hc with hc | hc
      · omega
      · exact hc.2
    · left; omega
  obtain ⟨r1, r2⟩ := merge_right' h3 hy hxc
  refine ⟨hj, hm, hh, hn, by simpa using hB, x, y + 1, rfl, by omega, by omega, h1, by omega, ?_, ?_⟩
  · rw [r2]; congr 1
  · rw [take_set_snoc (by omega), h4, List.append_assoc, show x + (y + 1) = (x + y) + 1 by omega, take_snoc' (by omega), r1, hyA]

theorem minv_end {W : Nat} {A : List ByteArray} {m mid hi i j : Nat} {B : List ByteArray} (h : MInv W A m mid hi hi i j B) : B.take hi = passTo W A (m + 1) := by
  obtain ⟨hm, hh, hn, hB, x, y, rfl, rfl, hk, h1, h2, h3, h4⟩ := h
  have hpl := piece_length W A m
  rw [h4, List.take_of_length_le (by omega), passTo]

theorem MInv.bounds {W : Nat} {A : List ByteArray} {m mid hi k i j : Nat} {B : List ByteArray} (h : MInv W A m mid hi k i j B) : i ≤ mid ∧ j ≤ hi ∧ mid ≤ hi ∧ hi ≤ A.length ∧ B.length = A.length := by
  obtain ⟨hm, hh, hn, hB, x, y, rfl, rfl, hk, h1, h2, h3, h4⟩ := h
  exact ⟨h1, h2, by omega, by omega, hB⟩

theorem pass_done {W m L : Nat} {T Bm A : List ByteArray} (hL : L = 2 * W * m) (hk : T.length ≤ L) (hl : Bm.length = T.length) (ht : Bm.take L = passTo W T m) (hb : Blocks W T) (hp : T.Perm A) :
    Bm.Perm A ∧ Blocks (W * 2) Bm := by
  rw [List.take_of_length_le (by omega)] at ht
  subst ht
  refine ⟨?_, ?_⟩
  · refine (passTo_perm W T m).trans ?_
    rw [← hL, List.take_of_length_le hk]
    exact hp
  · rw [Nat.mul_comm]
    exact passTo_blocks W T hb m (by omega)

theorem row_done {W m L mid hi i j k : Nat} {T Bq : List ByteArray} (hL : L = 2 * W * m) (hT : T.length = k) (h : MInv W T m mid hi hi i j Bq) :
    Bq.length = k ∧ Bq.take (L + 2 * W) = passTo W T (m + 1) := by
  have he := minv_end h
  obtain ⟨hm, hh, hn, hB, _⟩ := h
  refine ⟨by omega, ?_⟩
  by_cases hc : L + 2 * W ≤ k
  · rw [← he]; congr 1; omega
  · rw [← he, List.take_of_length_le (by omega), List.take_of_length_le (by omega)]

end Go.Proofs.Qxb6619603a

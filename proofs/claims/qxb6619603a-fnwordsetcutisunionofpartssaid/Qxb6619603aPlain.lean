/-
  PLAIN MATHEMATICS OF THE SEAT: lists of strings: the order that Go's '<=' has on strings, how many different strings a list holds, a merge sort from below. No program in sight.
-/
import Derived.Laws.Strings
import Derived.Maps.Views
namespace Go.Proofs.Qxb6619603a

/-! ### Go's '<=' on strings is a linear order -/
theorem less_irrefl : ∀ x : List UInt8, Op.bytesLess x x = false
  | [] => rfl
  | a :: x => by simp [Op.bytesLess, less_irrefl x]
theorem less_trans : ∀ x y z : List UInt8, Op.bytesLess x y = true → Op.bytesLess y z = true → Op.bytesLess x z = true
  | _, _, [], _, h2 => by simp [Op.bytesLess] at h2
  | _, [], _ :: _, h1, _ => by simp [Op.bytesLess] at h1
  | [], _ :: _, _ :: _, _, _ => by simp [Op.bytesLess]
  | a :: x, b :: y, c :: z, h1, h2 => by
    simp only [Op.bytesLess, Bool.or_eq_true, Bool.and_eq_true, decide_eq_true_eq, beq_iff_eq] at h1 h2 ⊢
    rcases h1 with h1 | ⟨rfl, h1⟩
    · rcases h2 with h2 | ⟨rfl, h2⟩
      · exact .inl (by simp only [UInt8.lt_iff_toNat_lt] at *; omega)
      · exact .inl h1
    · rcases h2 with h2 | ⟨rfl, h2⟩
      · exact .inl h2
      · exact .inr ⟨rfl, less_trans x y z h1 h2⟩
theorem less_total : ∀ x y : List UInt8, Op.bytesLess x y = true ∨ x = y ∨ Op.bytesLess y x = true
  | [], [] => .inr (.inl rfl)
  | [], _ :: _ => .inl rfl
  | _ :: _, [] => .inr (.inr rfl)
  | a :: x, b :: y => by
    simp only [Op.bytesLess, Bool.or_eq_true, Bool.and_eq_true, decide_eq_true_eq, beq_iff_eq]
    rcases less_total x y with h | h | h
    all_goals
      by_cases h1 : a < b
      · exact .inl (.inl h1)
      · by_cases h2 : b < a
        · exact .inr (.inr (.inl h2))
        · have e : a = b := by
            apply UInt8.toNat_inj.1
            simp only [UInt8.lt_iff_toNat_lt] at *
            omega
          subst e
          simp [h]

def leB (a b : ByteArray) : Bool := Op.bytesLess a.toList b.toList || a.toList == b.toList
theorem toList_inj' {a b : ByteArray} (h : a.toList = b.toList) : a = b := by
  rw [ByteArray.toList_eq, ByteArray.toList_eq] at h
  cases a; cases b
  congr
  exact Array.toList_inj.1 h
theorem leB_iff {a b : ByteArray} : leB a b = true ↔ (Op.bytesLess a.toList b.toList = true ∨ a = b) := by
  simp only [leB, Bool.or_eq_true, beq_iff_eq]
  constructor
  · rintro (h | h)
    · exact .inl h
    · exact .inr (toList_inj' h)
  · rintro (h | rfl)
    · exact .inl h
    · exact .inr rfl
theorem leB_trans (a b c : ByteArray) (h1 : leB a b = true) (h2 : leB b c = true) : leB a c = true := by
  rw [leB_iff] at *
  rcases h1 with h1 | rfl
  · rcases h2 with h2 | rfl
    · exact .inl (less_trans _ _ _ h1 h2)
    · exact .inl h1
  · exact h2
theorem leB_total (a b : ByteArray) : (leB a b || leB b a) = true := by
  rw [Bool.or_eq_true, leB_iff, leB_iff]
  rcases less_total a.toList b.toList with h | h | h
  · exact .inl (.inl h)
  · exact .inl (.inr (toList_inj' h))
  · exact .inr (.inl h)
theorem leB_antisymm {a b : ByteArray} (h1 : leB a b = true) (h2 : leB b a = true) : a = b := by
  rw [leB_iff] at *
  rcases h1 with h1 | rfl
  · rcases h2 with h2 | rfl
    · have := less_trans _ _ _ h1 h2
      rw [less_irrefl] at this
      cases this
    · rfl
  · rfl

/-! ### how many different strings -/
def hasB (ss : List ByteArray) (p : ByteArray) : Bool := ss.any (fun s => s.toList == p.toList)
theorem hasB_iff {ss : List ByteArray} {p : ByteArray} : hasB ss p = true ↔ p ∈ ss := by
  simp only [hasB, List.any_eq_true, beq_iff_eq]
  constructor
  · rintro ⟨s, hs, h⟩
    exact toList_inj' h ▸ hs
  · intro h
    exact ⟨p, h, rfl⟩
theorem hasB_congr {l l' : List ByteArray} {p : ByteArray} (h : p ∈ l ↔ p ∈ l') : hasB l p = hasB l' p := by
  rw [Bool.eq_iff_iff, hasB_iff, hasB_iff]; exact h
theorem hasB_false {ss : List ByteArray} {p : ByteArray} : hasB ss p = false ↔ p ∉ ss := by
  rw [← hasB_iff]; simp

def dcount : List ByteArray → Nat
  | [] => 0
  | x :: xs => if hasB xs x then dcount xs else dcount xs + 1

def strike (x : ByteArray) (l : List ByteArray) : List ByteArray := l.filter (fun y => !(y.toList == x.toList))
theorem mem_strike {x y : ByteArray} {l : List ByteArray} : y ∈ strike x l ↔ y ∈ l ∧ y ≠ x := by
  simp only [strike, List.mem_filter, Bool.not_eq_true', beq_eq_false_iff_ne]
  constructor
  · rintro ⟨h, hn⟩
    exact ⟨h, fun e => hn (by rw [e])⟩
  · rintro ⟨h, hn⟩
    exact ⟨h, fun e => hn (toList_inj' e)⟩
theorem dcount_strike (x : ByteArray) : ∀ l : List ByteArray, dcount (strike x l) + (if hasB l x then 1 else 0) = dcount l
  | [] => by simp [strike, dcount, hasB]
  | y :: l => by
    have ih := dcount_strike x l
    by_cases e : y = x
    · subst e
      have e1 : strike y (y :: l) = strike y l := by simp [strike]
      have e2 : hasB (y :: l) y = true := hasB_iff.2 (by simp)
      rw [e1, e2]
      simp only [dcount]
      by_cases h : hasB l y = true
      · rw [if_pos h] at ih ⊢; simp; omega
      · rw [if_neg h] at ih ⊢; simp; omega
    · have hne : ¬ (y.toList = x.toList) := fun h => e (toList_inj' h)
      have e1 : strike x (y :: l) = y :: strike x l := by simp [strike, hne]
      have e2 : hasB (y :: l) x = hasB l x := hasB_congr (by simp [Ne.symm e])
      have e3 : hasB (strike x l) y = hasB l y := by
        rw [Bool.eq_iff_iff, hasB_iff, hasB_iff, mem_strike]
        exact ⟨fun h => h.1, fun h => ⟨h, e⟩⟩
      rw [e1, e2]
      simp only [dcount, e3]
      by_cases h : hasB l y = true
      · rw [if_pos h, if_pos h]; exact ih
      · rw [if_neg h, if_neg h]; omega
theorem dcount_le : ∀ (l l' : List ByteArray), (∀ x ∈ l, x ∈ l') → dcount l ≤ dcount l'
  | [], _, _ => Nat.zero_le _
  | x :: l, l', h => by
    simp only [dcount]
    by_cases hx : hasB l x = true
    · rw [if_pos hx]
      exact dcount_le l l' (fun y hy => h y (List.mem_cons_of_mem _ hy))
    · rw [if_neg hx]
      have hx' : x ∉ l := fun e => hx (hasB_iff.2 e)
      have h1 := dcount_le l (strike x l') (fun y hy => mem_strike.2 ⟨h y (List.mem_cons_of_mem _ hy), fun e => hx' (e ▸ hy)⟩)
      have h2 := dcount_strike x l'
      rw [if_pos (hasB_iff.2 (h x List.mem_cons_self))] at h2
      omega
theorem dcount_congr {l l' : List ByteArray} (h : ∀ x, x ∈ l ↔ x ∈ l') : dcount l = dcount l' :=
  Nat.le_antisymm (dcount_le l l' (fun x => (h x).1)) (dcount_le l' l (fun x => (h x).2))
theorem dcount_snoc (l : List ByteArray) (x : ByteArray) : dcount (l ++ [x]) = if hasB l x then dcount l else dcount l + 1 := by
  rw [dcount_congr (l' := x :: l) (by simp [or_comm])]
  rfl
theorem dcount_length : ∀ l : List ByteArray, dcount l ≤ l.length
  | [] => Nat.le_refl _
  | x :: l => by
    have := dcount_length l
    simp only [dcount, List.length_cons]
    split <;> omega
theorem dcount_append_le : ∀ l r : List ByteArray, dcount (l ++ r) ≤ dcount l + dcount r
  | [], r => by simp [dcount]
  | x :: l, r => by
    have ih := dcount_append_le l r
    simp only [dcount, List.cons_append]
    by_cases h : hasB l x = true
    · have h' : hasB (l ++ r) x = true := hasB_iff.2 (List.mem_append.2 (.inl (hasB_iff.1 h)))
      rw [if_pos h, if_pos h']; exact ih
    · rw [if_neg h]
      split <;> omega
theorem dcount_left (l r : List ByteArray) : dcount l ≤ dcount (l ++ r) := dcount_le _ _ (fun _ h => List.mem_append.2 (.inl h))
theorem dcount_right (l r : List ByteArray) : dcount r ≤ dcount (l ++ r) := dcount_le _ _ (fun _ h => List.mem_append.2 (.inr h))

/-! ### the set as a map's datum -/
def keys (ss : List ByteArray) : List Lit := ss.map fun s => .string s.data.toList
def Sn (ss : List ByteArray) : DataW Unit := Maps.setOf (.lit (.bool true)) (keys ss)
theorem keys_lit (ss : List ByteArray) : ∀ x ∈ keys ss, WideAt.IsKeyLit x := by
  intro x hx
  simp only [keys, List.mem_map] at hx
  obtain ⟨s, _, rfl⟩ := hx
  trivial
theorem Sn_snoc (ss : List ByteArray) (s : ByteArray) : Sn (ss ++ [s]) = (Sn ss).put (.string s.data.toList) (.lit (.bool true)) := by
  simp only [Sn, keys, List.map_append, List.map_cons, List.map_nil]
  rw [Maps.setOf_snoc]
theorem Sn_nil : Sn [] = .map [] := by simp [Sn, keys, Maps.setOf]
theorem Sn_has (ss : List ByteArray) (p : ByteArray) : Maps.has (Sn ss) (.string p.data.toList) = hasB ss p := by
  rw [Sn, Maps.has_setOf _ _ _ (keys_lit ss), Bool.eq_iff_iff, hasB_iff]
  simp only [keys, List.any_map, List.any_eq_true, Function.comp]
  constructor
  · rintro ⟨s, hs, h⟩
    have e : (Lit.string s.data.toList) = .string p.data.toList := by
      by_cases e : (Lit.string s.data.toList) = .string p.data.toList
      · exact e
      · rw [Maps.sameKey_ne e] at h
        cases h
    injection e with e
    have : s = p := toList_inj' (by rw [ByteArray.toList_eq, ByteArray.toList_eq]; exact e)
    exact this ▸ hs
  · intro h
    exact ⟨p, h, by simp [Lit.sameKey]⟩
theorem Sn_size : ∀ ss : List ByteArray, Maps.size (Sn ss) = dcount ss := by
  intro ss
  rw [← List.reverse_reverse ss]
  induction ss.reverse with
  | nil => simp [Sn_nil, Maps.size, dcount]
  | cons x l ih =>
    have ht : Maps.Tidy (Sn l.reverse) := Maps.tidy_setOf _ _ (keys_lit _)
    rw [List.reverse_cons, Sn_snoc, Maps.size_put ht, Sn_has, dcount_snoc, ih]
theorem Sn_isMap (ss : List ByteArray) : Maps.IsMap (Sn ss) := (Maps.tidy_setOf _ _ (keys_lit ss)).isMap
theorem Sn_at (p : ByteArray) : ∀ ss : List ByteArray, (Sn ss).atKey (.string p.data.toList) (.lit (.bool false)) = .lit (.bool (hasB ss p)) := by
  intro ss
  rw [← List.reverse_reverse ss]
  induction ss.reverse with
  | nil => rw [List.reverse_nil, Maps.atKey_of_not_has (by rw [Sn_has]; rfl)]; rfl
  | cons x l ih =>
    rw [List.reverse_cons, Sn_snoc]
    by_cases e : p = x
    · subst e
      rw [Maps.atKey_put_same (Sn_isMap _) (k := .string p.data.toList) trivial, hasB_iff.2 (by simp)]
    · have hne : (Lit.string p.data.toList) ≠ .string x.data.toList := by
        intro h
        injection h with h
        exact e (toList_inj' (by rw [ByteArray.toList_eq, ByteArray.toList_eq]; exact h))
      rw [Maps.atKey_put_other hne, ih, hasB_congr (l := l.reverse) (l' := l.reverse ++ [x]) (by simp [e])]

end Go.Proofs.Qxb6619603a

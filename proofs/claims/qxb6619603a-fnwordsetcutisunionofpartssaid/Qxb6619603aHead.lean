/-
  WHAT BOTH LAWS SHARE: the contracts at a length that is a number of its own; the copy of the words.
-/
import Derived.Test.Qxb6619603aBytes
import Derived.Test.Qxb6619603aSet
import Derived.Test.Qxb6619603aCount
namespace Go.Proofs.Qxb6619603a
open Go.RowKit

theorem has_at (ad : Option Addr) (cap n : Nat) (ss : List ByteArray) (p : ByteArray) (w : World) (hl : Hid (ss.length = n)) (hn : n ≤ 1048576) (hs : StrsAt w ad ss) :
    Calls Try.prog 7 #[.slice ad n cap, .string p] w fun e w' => e = .returned (.bool (hasB ss p)) ∧ w' = w := by
  have e := hl.out
  subst e
  exact has_any ad cap ss p w hn hs
theorem set_at (ad : Option Addr) (cap n : Nat) (ss : List ByteArray) (w : World) (hl : Hid (ss.length = n)) (hn : n ≤ 4194304) (hs : StrsAt w ad ss) (hsz : ∀ s ∈ ss, s.size ≤ maxLen) :
    Calls Try.prog 6 #[.slice ad n cap] w fun e w' => e = .returned (.map (some w.heap.size)) ∧ SetAt w' w.heap.size ss ∧ Below w.heap.size w w' := by
  have e := hl.out
  subst e
  exact zset_any ad cap ss w hn hs hsz
theorem count_at (ad : Option Addr) (cap n : Nat) (ss : List ByteArray) (w : World) (hl : Hid (ss.length = n)) (hn : n ≤ 4194304) (hs : StrsAt w ad ss) :
    Calls Try.prog 8 #[.slice ad n cap] w fun e w' => e = .returned (.int .i64 (dcount ss)) ∧ Below w.heap.size w w' := by
  have e := hl.out
  subst e
  exact count_any ad cap ss w hn hs

/-- The world behind 'zzc := make([]string, len(words)); copy(zzc, words)'. -/
def copied (w : World) (ss : List ByteArray) : World := (w.alloc (.cells (blank ss.length) 9)).setRow w.heap.size (ss.map Value.string).toArray
theorem copied_row (w : World) (ss : List ByteArray) : RowS (copied w ss) w.heap.size ss := by
  unfold copied RowS
  exact setRow_heap _ _ _ _ _ _ (blank_row ss.length w)
theorem copied_below (w : World) (ss : List ByteArray) : Below w.heap.size w (copied w ss) := by
  unfold copied
  refine ((Below.refl _ _).alloc (Nat.le_refl _) (.cells (blank ss.length) 9)).trans ⟨rfl, rfl, rfl, by simp [World.setRow], fun k hk => setRow_other _ _ k _ (by omega)⟩
theorem copy_strs (w : World) (a : Addr) (cap n : Nat) (ss : List ByteArray) (hl : ss.length = n) (hs : StrsAt w (some a) ss) (ty : TypeId) :
    (Builtin.copy_ #[22, 22] ty #[.slice (some ⟨w.heap.size, 0, none⟩) n n, .slice (some a) n cap]).run Try.prog (w.alloc (.cells (blank n) 9)) = .ok (.int .i64 n) (copied w ss) := by
  subst hl
  have hb := blank_row ss.length w
  have hr := run_copy_row (P := Try.prog) (w.alloc (.cells (blank ss.length) 9)) 22 22 ty 9 w.heap.size 0 ss.length ss.length a ss.length cap (blank ss.length) 9 (ss.map Value.string) Try.underlying22 (by kernel_rfl) hb
    (by simp) ?_ (by simp [blank]) ?_
  · rw [hr]
    simp [goInt, copied, blank]
  · intro j v hj
    have hjl : j < ss.length := by
      have := (List.getElem?_eq_some_iff.1 hj).1
      simpa using this
    obtain ⟨b, off, e, hc⟩ := hs j hjl
    injection e with e
    subst e
    have hc' := (World.cell?_alloc_past (w := w) (.cells (blank ss.length) 9) b (off + j) (lt_of_cell hc)).trans hc
    rw [show (Addr.add ⟨b, off, none⟩ j) = ⟨b, off + j, none⟩ by unfold Addr.add; split <;> simp_all]
    rw [hc']
    simp [hjl] at hj
    simp [List.getD, hjl, ← hj]
  · intro v hv
    simp only [List.mem_map] at hv
    obtain ⟨s, _, rfl⟩ := hv
    rfl

end Go.Proofs.Qxb6619603a

import Derived.Test.Qxb6630276aSib
namespace Go.Proofs.Qxb6630276a.Walks
open Go.RowKit

theorem zinfo22 : (Try.prog.info? 22).map (·.zero) = some (some (.agg zero24)) := by kernel_rfl

theorem boxes_next {w W0 w1 : World} {f q : Nat → Nat} (h : W0.rangeAt w.heap.size 0 (A f) ∧ W0.rangeAt (w.heap.size + 1) 0 (A q) ∧ Below w.heap.size w W0 ∧ w.heap.size + 2 ≤ W0.heap.size) (hb : Below W0.heap.size W0 w1) :
    w1.rangeAt w.heap.size 0 (A f) ∧ w1.rangeAt (w.heap.size + 1) 0 (A q) ∧ Below w.heap.size w w1 ∧ w.heap.size + 2 ≤ w1.heap.size := by
  obtain ⟨h1, h2, h3, h4⟩ := h
  have := hb.size
  exact ⟨range_below hb (by omega) h1, range_below hb (by omega) h2, h3.trans (hb.mono (by omega)), by omega⟩

/-- what is known of the world in the last loop: the mark W, and the array s in its box -/
theorem cur_next {W x y : World} {b : Nat} {s : Nat → Nat} (h : Below W.heap.size W x ∧ x.rangeAt b 0 (A s) ∧ b < x.heap.size) (hb : Below x.heap.size x y) :
    Below W.heap.size W y ∧ y.rangeAt b 0 (A s) ∧ b < y.heap.size :=
  ⟨h.1.trans (hb.mono h.1.size), range_below hb h.2.2 h.2.1, Nat.lt_of_lt_of_le h.2.2 hb.size⟩

/-- a new box for an array -/
theorem box_new (w : World) (s : Nat → Nat) : ((w.alloc (.cells zero24 22)).setCells w.heap.size 0 (A s)).rangeAt w.heap.size 0 (A s) ∧
    Below w.heap.size w ((w.alloc (.cells zero24 22)).setCells w.heap.size 0 (A s)) ∧ w.heap.size < ((w.alloc (.cells zero24 22)).setCells w.heap.size 0 (A s)).heap.size := by
  have ht : (w.alloc (.cells zero24 22)).there w.heap.size 0 32 := there_new w zero24 22 32 (by rw [zero24_size]; omega)
  have hb : Below w.heap.size w ((w.alloc (.cells zero24 22)).setCells w.heap.size 0 (A s)) := below_setCells ((Below.refl _ _).alloc (Nat.le_refl _) _) _ _ (Nat.le_refl _) _
  refine ⟨World.rangeAt_setCells_same _ _ _ _ (by rw [A_length]; exact ht), hb, ?_⟩
  have := (below_setCells (Below.refl 0 (w.alloc (.cells zero24 22))) w.heap.size 0 (Nat.zero_le _) (A s)).size
  have h2 : (w.alloc (.cells zero24 22)).heap.size = w.heap.size + 1 := by simp
  omega

end Go.Proofs.Qxb6630276a.Walks

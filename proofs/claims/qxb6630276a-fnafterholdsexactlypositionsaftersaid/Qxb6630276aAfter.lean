import Derived.Test.Qxb6630276aPrefix
import Derived.Deep.AppendLies
namespace Go.Proofs.Qxb6630276a.Walks
open Go.RowKit

/-- bit i of f turned -/
def flip (f : Nat → Nat) (i j : Nat) : Nat := if j = i / 8 then f j ^^^ (128 / 2 ^ (i % 8)) else f j

theorem xor_tab : ∀ (r : Fin 8) (y : Fin 256), bits .xor .u8 (y.val : Int) (128 / 2 ^ r.val) = ((y.val ^^^ (128 / 2 ^ r.val) : Nat) : Int) ∧ (y.val ^^^ (128 / 2 ^ r.val)) < 256 := by decide +kernel
theorem flip_at (f : Nat → Nat) (i : Nat) (hf : f (i / 8) < 256) : bits .xor .u8 (f (i / 8) : Int) (128 / 2 ^ (i % 8)) = ((flip f i (i / 8) : Nat) : Int) := by
  unfold flip; rw [if_pos rfl]; exact (xor_tab ⟨i % 8, by omega⟩ ⟨f (i / 8), hf⟩).1
theorem flip_lt (f : Nat → Nat) (i : Nat) (hf : ∀ j, f j < 256) (j : Nat) : flip f i j < 256 := by
  unfold flip; split
  · exact (xor_tab ⟨i % 8, by omega⟩ ⟨f j, hf j⟩).2
  · exact hf j

theorem flip_set (f : Nat → Nat) (n i : Nat) (hi : i < 256) : (pfx f n).set (i / 8) (.int .u8 ((flip f i (i / 8) : Nat) : Int)) = pfx (flip f i) n := by
  apply List.ext_getElem?
  intro j
  by_cases hj : j < 32
  · rw [pfx_get _ _ j hj]
    by_cases hk : j = i / 8
    · subst hk; rw [List.getElem?_set_self (by rw [pfx_length]; omega)]
    · rw [List.getElem?_set_ne (by omega), pfx_get _ _ j hj]; unfold flip; rw [if_neg hk]
  · rw [List.getElem?_set_ne (by omega)]
    by_cases h2 : j = 32
    · subst h2; rw [pfx_last, pfx_last]
    · rw [List.getElem?_eq_none (by rw [pfx_length]; omega), List.getElem?_eq_none (by rw [pfx_length]; omega)]

theorem there_two (w : World) (X : Obj) : ((w.alloc X).alloc (.cells zero26 26)).there (w.heap.size + 1) 0 33 := by
  have := there_new (w.alloc X) zero26 26 33 (by rw [zero26_size]; omega)
  simpa using this

set_option maxHeartbeats 400000 in
theorem sibling_core (f g : Nat → Nat) (n : Nat) (w : World) (h1 : 1 ≤ n) (hn : n ≤ 256) (hf : ∀ j, f j < 256) (HG : Hid (flip f (n - 1) = g)) :
    Calls Try.prog 15 #[.agg (pfx f n).toArray] w fun e w' => e = .returned (.agg (pfx g n).toArray) ∧ Below w.heap.size w w' := by
  have hl := pfx_last f n
  have hg := pfx_get f n ((n - 1) / 8) (by omega)
  have i1 : (0 : Int) ≤ ((n : Int) - 1) / 8 := by omega
  have i2 : ((n : Int) - 1) / 8 < 32 := by omega
  go_enter Try.func15, Try.ntmps15
  go_wp2_with ((with_reducible refine wpL_alloc 26 ?_); refine ⟨zero26, w.heap.size + 1, zinfo26, by simp, ?_⟩)
  simp only [Act.put, List.setIfInBounds_toArray, List.set_cons_succ, List.set_cons_zero]
  go_region
  rw [flip_at f (n - 1) (hf _), flip_set f n (n - 1) (by omega), HG.out]
  clear hl hg
  have hr : ((w.alloc (.cells (pfx g n).toArray 26)).alloc (.cells zero26 26)).drew.rangeAt w.heap.size 0 (pfx g n) :=
    (World.rangeAt_drew _ _ _ _).2 (World.rangeAt_alloc (range_of_row _ (heap_alloc_new w _)) _)
  have ht : ((w.alloc (.cells (pfx g n).toArray 26)).alloc (.cells zero26 26)).drew.there (w.heap.size + 1) 0 33 := (World.there_drew _ _ _ _).2 (there_two w _)
  have HR := hide hr
  have HT := hide ht
  clear hr ht
  go_wp2_with (first | ((with_reducible refine wpL_load 26 _ ?_); refine ⟨w.heap.size, 0, pfx g n, _, rfl, by exact HR.out, Try.underlying26, rfl, by rw [info26, pfx_length], ?_⟩) | ((with_reducible refine wpL_store 26 _ _ ?_); refine ⟨w.heap.size + 1, 0, (pfx g n).toArray, rfl, rfl, by rw [pfx_size]; exact HT.out, by rw [info26, pfx_size], pfx_all _ _, ?_⟩))
  refine bodyPost_ret (v := .agg (pfx g n).toArray) ?r1 ?r2 ?r3
  case r1 => exact results_mid Try.results15 _ _ (w.heap.size + 1) (pfx g n) _ (by rfl) (World.rangeAt_setCells_same _ _ _ _ (by rw [pfx_length]; exact HT.out)) Try.underlying26 rfl (by rw [info26, pfx_length])
  case r2 => rfl
  exact ⟨rfl, below_setCells (((Below.refl _ _).alloc (Nat.le_refl _) _).alloc (by simp) _).drew _ _ (by omega) _⟩

theorem sibling_any (f : Nat → Nat) (n : Nat) (w : World) (h1 : 1 ≤ n) (hn : n ≤ 256) (hf : ∀ j, f j < 256) :
    Calls Try.prog 15 #[.agg (pfx f n).toArray] w fun e w' => e = .returned (.agg (pfx (flip f (n - 1)) n).toArray) ∧ Below w.heap.size w w' :=
  sibling_core f _ n w h1 hn hf rfl

theorem prefixOf_sub (f : Nat → Nat) (n : Nat) (w : World) (h1 : 1 ≤ n) (hn : n ≤ 256) (hf : ∀ j, f j < 256) :
    Calls Try.prog 5 #[.agg (A f).toArray, .int .i64 ((n : Int) - 1)] w fun e w' => e = .returned (.agg (pfx (cut f (n - 1)) (n - 1)).toArray) ∧ Below w.heap.size w w' := by
  rw [show (n : Int) - 1 = ((n - 1 : Nat) : Int) by omega]
  exact prefixOf_any f (n - 1) w (by omega) hf

/-- a range, and room, below a mark that nothing has turned -/
theorem range_below {B : Nat} {w w' : World} (h : Below B w w') {b o : Nat} (hb : b < B) {cs : List Value} (hr : w.rangeAt b o cs) : w'.rangeAt b o cs := by
  intro j v hv; rw [h.cell (p := ⟨b, o + j, none⟩) hb]; exact hr j v hv
theorem there_below {B : Nat} {w w' : World} (h : Below B w w') {b o n : Nat} (hb : b < B) (hr : w.there b o n) : w'.there b o n := by
  intro j hj; rw [h.cell (p := ⟨b, o + j, none⟩) hb, h.frozen (p := ⟨b, o + j, none⟩) hb]; exact hr j hj

set_option maxHeartbeats 400000 in
theorem parent_core (f g : Nat → Nat) (n : Nat) (w : World) (h1 : 1 ≤ n) (hn : n ≤ 256) (hf : ∀ j, f j < 256) (HG : Hid (cut f (n - 1) = g)) :
    Calls Try.prog 13 #[.agg (pfx f n).toArray] w fun e w' => e = .returned (.agg (pfx g (n - 1)).toArray) ∧ Below w.heap.size w w' := by
  have hl := pfx_last f n
  have hr := range_bytes w f n 26
  have HR := hide (World.rangeAt_alloc hr (.cells zero26 26))
  have HT := hide (there_two w (.cells (pfx f n).toArray 26))
  clear hr
  go_enter Try.func13, Try.ntmps13
  go_wp2_with (first | ((with_reducible refine wpL_alloc 26 ?_); refine ⟨zero26, w.heap.size + 1, zinfo26, by simp, ?_⟩) | ((with_reducible refine wpL_load 24 _ ?_); refine ⟨w.heap.size, 0, A f, _, rfl, by exact HR.out, Try.underlying24, rfl, by rw [info24, A_length], ?_⟩))
  refine (prefixOf_sub f n _ h1 hn hf).mono ?_
  rw [HG.out]
  rintro e w1 ⟨rfl, hb⟩
  have ht : w1.there (w.heap.size + 1) 0 33 := there_below hb (by simp) HT.out
  have hb2 : Below w.heap.size w w1 := (((Below.refl _ _).alloc (Nat.le_refl _) _).alloc (by simp) _).trans (hb.mono (by simp; omega))
  have HT1 := hide ht
  have HB := hide hb2
  clear ht hb hb2 HT HR hl
  go_wp2_with ((with_reducible refine wpL_store 26 _ _ ?_); refine ⟨w.heap.size + 1, 0, (pfx g (n - 1)).toArray, rfl, rfl, by rw [pfx_size]; exact HT1.out, by rw [info26, pfx_size], pfx_all _ _, ?_⟩)
  refine bodyPost_ret (v := .agg (pfx g (n - 1)).toArray) ?r1 ?r2 ?r3
  case r1 => exact results_mid Try.results13 _ _ (w.heap.size + 1) (pfx g (n - 1)) _ (by rfl) (World.rangeAt_setCells_same _ _ _ _ (by rw [pfx_length]; exact HT1.out)) Try.underlying26 rfl (by rw [info26, pfx_length])
  case r2 => rfl
  exact ⟨rfl, below_setCells HB.out _ _ (by omega) _⟩

theorem parent_any (f : Nat → Nat) (n : Nat) (w : World) (h1 : 1 ≤ n) (hn : n ≤ 256) (hf : ∀ j, f j < 256) :
    Calls Try.prog 13 #[.agg (pfx f n).toArray] w fun e w' => e = .returned (.agg (pfx (cut f (n - 1)) (n - 1)).toArray) ∧ Below w.heap.size w w' :=
  parent_core f _ n w h1 hn hf rfl

end Go.Proofs.Qxb6630276a.Walks

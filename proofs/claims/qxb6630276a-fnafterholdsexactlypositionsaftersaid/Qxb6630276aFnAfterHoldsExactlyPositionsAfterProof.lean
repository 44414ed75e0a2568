/- The proof of 'Rows.FnAfterHoldsExactlyPositionsAfterSaid'. -/
import Derived.Test.Qxb6630276aRows
import Derived.WalkKit
import Derived.ProofKit
import Derived.OpenShut
import Derived.ChangeOld
import Derived.Below
import Derived.Test.Qxb6630276aOpen
import Derived.Test.Qxb6630276aPosA
import Derived.Test.Qxb6630276aPosB
import Derived.Test.Qxb6630276aPosC
namespace Go.Proofs.Qxb6630276a.fnAfterHoldsExactlyPositionsAfter
open Go.ChangeShapes Go.WideShapes Go.ChangeAt Go.RowKit

theorem own : ownKnob Try.prog.godebug = none := by kernel_rfl
theorem laidOut : laidOutB Try.prog = true := by kernel_rfl

/-- the bits of f and q below n are alike, or there is a first difference -/
theorem first_diff (f q : Nat → Nat) (n : Nat) : (∀ i, i < n → Walks.bit f i = Walks.bit q i) ∨ ∃ d, d < n ∧ (∀ i, i < d → Walks.bit f i = Walks.bit q i) ∧ Walks.bit f d ≠ Walks.bit q d := by
  induction n with
  | zero => exact .inl (fun i hi => absurd hi (Nat.not_lt_zero _))
  | succ n ih =>
    rcases ih with h | ⟨d, h1, h2, h3⟩
    · by_cases he : Walks.bit f n = Walks.bit q n
      · refine .inl (fun i hi => ?_)
        by_cases hi' : i < n
        · exact h i hi'
        · rw [show i = n by omega]; exact he
      · exact .inr ⟨n, by omega, h, he⟩
    · exact .inr ⟨d, by omega, h2, h3⟩

set_option maxHeartbeats 400000 in
theorem walk (f : Nat → Nat) (a1 : Int) (q : Nat → Nat) (hf : ∀ j, f j < 256) (hq : ∀ j, q j < 256) (w : World) :
    Calls Try.prog 3 #[.agg (Walks.A f).toArray, .int .i64 a1, .agg (Walks.A q).toArray] w fun e w' => e = .returned (.bool true) ∧ Below w.heap.size w w' := by
  by_cases c0 : a1 < 0
  · go_enter Try.func3, Try.ntmps3
    go_wp2
    go_ret
    exact ⟨rfl, ((Below.refl _ _).alloc (Nat.le_refl _) _).alloc (by simp) _⟩
  by_cases c1 : 256 < a1
  · go_enter Try.func3, Try.ntmps3
    go_wp2
    go_ret
    exact ⟨rfl, ((Below.refl _ _).alloc (Nat.le_refl _) _).alloc (by simp) _⟩
  obtain ⟨n, rfl⟩ := Int.eq_ofNat_of_zero_le (show 0 ≤ a1 by omega)
  rcases first_diff f q n with h | ⟨d, h1, h2, h3⟩
  · exact Walks.pos_same f q n w (by omega) hf hq h
  · rcases Walks.bit_01 f d with hd | hd <;> rcases Walks.bit_01 q d with he | he
    · omega
    · exact Walks.pos_one f q n d w (by omega) h1 hf hq h2 hd he
    · exact Walks.pos_zero f q n d w (by omega) h1 hf hq h2 hd he
    · omega

set_option maxRecDepth 100000 in
theorem lifted (os : Os) (started : os.Started) (H : Type) (enc : TypeId × Value → H) :
    ReturnsInHanded {} Try.checked os 3 .any (Rows.fnAfterHoldsExactlyPositionsAfterSpec.pre6 enc Try.prog Try.f3 Rows.fnAfterHoldsExactlyPositionsAfterRow.domain false) (Rows.fnAfterHoldsExactlyPositionsAfterSpec.post enc Try.prog Try.f3 false true false false) := by
  refine returnsInHanded_of_change (C := Try.checked) own started (by kernel_rfl) Try.func3
    (ChangeSpec.witness6 (enc := enc) (C := Try.checked) false ⟨#[], #[.agg (Array.replicate 32 (.int .u8 0)), .int .i64 0, .agg (Array.replicate 32 (.int .u8 0))], []⟩ 8 (by kernel_rfl) (by kernel_rfl) (by kernel_rfl) (by kernel_rfl)) ?_
  intro W base args ds gs before hval0 hW hcnd _
  have hval : ∀ (j : Nat) t v, Try.f3.params[j]? = some t → args[j]? = some v → Value.okWide Try.prog W .any base t v := hval0
  have hW' := hW
  obtain ⟨p, q, hA0, hV, rfl, hfz, hnd⟩ := hW
  have hA : DataW.TrodAll enc Try.prog W 0 (fun _ => true) true Try.f3.params.toList args.toList ds p := hA0
  rw [Try.params3] at hA hval
  obtain ⟨v0, vs0, d0, ds0, p0, q0, hargs, rfl, rfl, h0, r0⟩ := trodAll_cons hA
  obtain ⟨v1, vs1, d1, ds1, p1, q1, rfl, rfl, rfl, h1, r1⟩ := trodAll_cons r0
  obtain ⟨v2, vs2, d2, ds2, p2, q2, rfl, rfl, rfl, h2, r2⟩ := trodAll_cons r1
  obtain ⟨rfl, rfl, rfl⟩ := trodAll_nil r2
  obtain rfl : args = #[v0, v1, v2] := by cases args; simp_all
  obtain ⟨rfl, rfl⟩ := trodVars_none hV
  have k0 := h0
  have lt0 : ∀ x ∈ p0, x.block < W.heap.size := by obtain ⟨m, hm⟩ := k0; exact DataW.trod_lt m _ _ _ hm
  obtain ⟨f, hf, rfl⟩ := Walks.open_arr (hval 0 22 v0 rfl rfl) h0
  obtain ⟨a1, rfl, rfl, rfl, w1⟩ := open_int Try.underlying3 (hval 1 3 v1 rfl rfl) h1
  have k2 := h2
  have lt2 : ∀ x ∈ p2, x.block < W.heap.size := by obtain ⟨m, hm⟩ := k2; exact DataW.trod_lt m _ _ _ hm
  obtain ⟨g, hg, rfl⟩ := Walks.open_arr (hval 2 22 v2 rfl rfl) h2
  clear hA0 hval0
  refine (walk f a1 g hf hg W).mono fun e W' ⟨he, bel⟩ => ?_
  subst he
  exact ⟨_, rfl, _, _, _, [], _, [], hW', trodAll_mk1 (shut_bool Try.underlying4 _), (trodAll_cons_mk (Below.trod laidOut (by kernel_rfl) (of_decide_eq_true (by kernel_rfl)) k0 bel lt0) (trodAll_cons_mk (shut_int Try.underlying3 w1) (trodAll_cons_mk (Below.trod laidOut (by kernel_rfl) (of_decide_eq_true (by kernel_rfl)) k2 bel lt2) trodAll_mk0))), rfl, bel.frame _, fun h => by cases h⟩

theorem over : Rows.fnAfterHoldsExactlyPositionsAfterRow.holds Try.pinned (OpenSpec.ofChange Rows.fnAfterHoldsExactlyPositionsAfterSpec) :=
  OpenClaim.holds_of_wide 3 Try.f3 rfl rfl rfl rfl rfl rfl rfl ⟨rfl, rfl, rfl, rfl, rfl⟩ rfl rfl rfl rfl rfl (by kernel_rfl) Try.func3 (by kernel_rfl)
    (of_decide_eq_true (by kernel_rfl)) (by unfold Func.isWrapper; first | (rw [if_pos (by decide +kernel)]; kernel_rfl) | (rw [if_neg (by decide +kernel)]; exact ⟨rfl, rfl⟩))
    (fun os started H enc _ => lifted os started H enc)

/-- THE STATEMENT -/
theorem proved : Rows.FnAfterHoldsExactlyPositionsAfterSaid :=
  over
end Go.Proofs.Qxb6630276a.fnAfterHoldsExactlyPositionsAfter

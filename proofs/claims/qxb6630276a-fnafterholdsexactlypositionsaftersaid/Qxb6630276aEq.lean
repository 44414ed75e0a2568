import Derived.Test.Qxb6630276aWalks
namespace Go.Proofs.Qxb6630276a.Walks
open Go.RowKit

theorem part5 (f : Nat → Nat) (j : Nat) (hj : j < 32) (w : World) : (part 5 (A f).toArray j).run Try.prog w = .ok (.int .u8 (f j : Int)) w := by
  have h : (isAgg 5).run Try.prog w = .ok false w := by kernel_rfl
  unfold part
  rw [Sem.run_bind, h]
  simp only [Result.andThen_ok, Bool.false_eq_true, if_false, List.getElem?_toArray, A_get f j hj, Sem.run_pure]

theorem equal_list (d : Nat) (f : Nat → Nat) : ∀ (l : List Nat), (∀ i ∈ l, i < 32) → ∀ w : World,
    Sem.run Try.prog (forIn l ((none, ()) : Option Bool × Unit) fun i __s => do
            let __do_lift ← part 5 (A f).toArray i
            let __do_lift_1 ← part 5 (A f).toArray i
            let __do_lift ← Op.equalIn (d + 1) 5 __do_lift __do_lift_1
            if (!__do_lift) = true then pure (ForInStep.done (some false, ())) else pure (ForInStep.yield (none, ()))) w = .ok (none, ()) w
  | [], _, w => rfl
  | i :: r, h, w => by
    have hi := h i (by simp)
    rw [List.forIn_cons]
    simp only [Sem.run_bind, part5 f i hi, Result.andThen_ok, run_equalIn_int w d 5 .u8 .u8 _ _ Try.underlying5, BEq.rfl, Bool.not_true, Bool.false_eq_true, if_false, Sem.run_pure]
    exact equal_list d f r (fun j hj => h j (by simp [hj])) w

theorem equal22 (d : Nat) (f : Nat → Nat) (w : World) : (Op.equalIn (d + 2) 22 (.agg (A f).toArray) (.agg (A f).toArray)).run Try.prog w = .ok true w := by
  have hs : (sizeOf 5).run Try.prog w = .ok 1 w := by kernel_rfl
  rw [Op.equalIn]
  rw [Sem.run_bind, run_underlying Try.underlying22]
  simp only [Result.andThen_ok, Sem.run_bind, hs, Nat.mul_one]
  rw [Std.Legacy.Range.forIn_eq_forIn_range']
  rw [equal_list d f _ (fun i hi => by simp [List.mem_range'] at hi; omega) w]
  rfl

theorem neq22_run (f : Nat → Nat) (w : World) : (binOp .neq 22 (.agg (A f).toArray) (.agg (A f).toArray)).run Try.prog w = .ok (.bool false) w := by
  rw [run_neq_struct, equal22 9998 f w]; rfl

theorem guard22 : Try.prog.eqGuardType Try.prog.depth 22 = false := by kernel_rfl

end Go.Proofs.Qxb6630276a.Walks

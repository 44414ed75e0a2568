import Derived.Test.Qxb6630193aChecked
import Derived.WalkKit
import Derived.ProofKit
import Derived.WalkSpells
import Derived.Test.Qxb6630193aPlain
namespace Go.Proofs.Qxb6630193a.Walks
open Go.RowKit

set_option maxHeartbeats 400000 in
theorem ceil_any (a b : Int) (w : World) (ha : 1 ≤ a) (ha' : a ≤ 9223372036854775807) (hb : 1 ≤ b) (hb' : b ≤ 9223372036854775807)
    (hd : 0 ≤ (a + b - 1) / b) (hd' : (a + b - 1) / b ≤ 9223372036854775807) :
    Calls Try.prog 7 #[.int .i64 a, .int .i64 b] w fun e w' => e = .returned (.int .i64 ((a + b - 1) / b)) ∧ w' = w := by
  go_enter Try.func7, Try.ntmps7
  go_wp2
  go_ret
  exact ⟨rfl, rfl⟩


/-- the block of a rate -/
def rb (cost gain cap : Int) : Obj := .cells #[.int .i64 cost, .int .i64 gain, .int .i64 cap] 23

set_option maxHeartbeats 400000 in
theorem new_any (cost gain cap : Int) (w : World) :
    Calls Try.prog 5 #[.int .i64 cost, .int .i64 gain, .int .i64 cap] w fun e w' => e = .returned (.agg #[.int .i64 cost, .int .i64 gain, .int .i64 cap]) ∧ w' = w.alloc (rb cost gain cap) := by
  go_enter Try.func5, Try.ntmps5
  go_wp2
  exact bodyPost_ret (v := .agg #[.int .i64 cost, .int .i64 gain, .int .i64 cap]) (by simp [results, Try.results5, go_sem]) rfl ⟨rfl, rfl⟩

set_option maxHeartbeats 400000 in
theorem standing_full (cost gain cap : Int) (w : World) (hc : 1 ≤ cost) (hk : 1 ≤ cap) (hk' : cap ≤ 9223372036854775807) :
    Calls Try.prog 6 #[.agg #[.int .i64 cost, .int .i64 gain, .int .i64 cap], .int .i64 0] w fun e w' => e = .returned (.tuple #[.int .i64 (cap / cost), .int .i64 0]) ∧ w' = w.alloc (rb cost gain cap) := by
  go_enter Try.func6, Try.ntmps6
  go_wp2
  go_ret2
  exact ⟨rfl, rfl⟩

set_option maxHeartbeats 400000 in
theorem standing_some (cost gain cap lack : Int) (w : World) (hc : 1 ≤ cost) (hg : 1 ≤ gain) (hg' : gain ≤ 9223372036854775807) (hk' : cap ≤ 9223372036854775807)
    (hl : 1 ≤ lack) (hl' : lack ≤ 9223372036854775807) (h : lack < cap)
    (t0 : 0 ≤ (cap - lack) / cost) (t1 : (cap - lack) / cost < 9223372036854775807)
    (t2 : 0 ≤ ((cap - lack) / cost + 1) * cost) (t3 : ((cap - lack) / cost + 1) * cost ≤ cap)
    (n1 : 1 ≤ lack - (cap - ((cap - lack) / cost + 1) * cost))
    (d1 : 0 ≤ (lack - (cap - ((cap - lack) / cost + 1) * cost) + gain - 1) / gain)
    (d2 : (lack - (cap - ((cap - lack) / cost + 1) * cost) + gain - 1) / gain ≤ 9223372036854775807) :
    Calls Try.prog 6 #[.agg #[.int .i64 cost, .int .i64 gain, .int .i64 cap], .int .i64 lack] w fun e w' =>
      e = .returned (.tuple #[.int .i64 ((cap - lack) / cost), .int .i64 ((lack - (cap - ((cap - lack) / cost + 1) * cost) + gain - 1) / gain)]) ∧ w' = w.alloc (rb cost gain cap) := by
  go_enter Try.func6, Try.ntmps6
  go_wp2_with (go_at_call 7; refine (ceil_any _ _ _ (by omega) (by omega) (by omega) (by omega) (by assumption) (by assumption)).mono ?_; rintro e w' ⟨rfl, rfl⟩)
  go_ret2
  exact ⟨rfl, rfl⟩

set_option maxHeartbeats 400000 in
theorem standing_none (cost gain cap lack : Int) (w : World) (hc : 1 ≤ cost) (hg : 1 ≤ gain) (hg' : gain ≤ 9223372036854775807) (hk' : cap ≤ 9223372036854775807)
    (hl : 1 ≤ lack) (hl' : lack ≤ 9223372036854775807) (h : cap ≤ lack) (hcc : cost ≤ cap)
    (d1 : 0 ≤ (lack - (cap - cost) + gain - 1) / gain)
    (d2 : (lack - (cap - cost) + gain - 1) / gain ≤ 9223372036854775807) :
    Calls Try.prog 6 #[.agg #[.int .i64 cost, .int .i64 gain, .int .i64 cap], .int .i64 lack] w fun e w' =>
      e = .returned (.tuple #[.int .i64 0, .int .i64 ((lack - (cap - cost) + gain - 1) / gain)]) ∧ w' = w.alloc (rb cost gain cap) := by
  go_enter Try.func6, Try.ntmps6
  go_wp2_with (go_at_call 7; refine (ceil_any _ _ _ (by omega) (by omega) (by omega) (by omega) (by assumption) (by assumption)).mono ?_; rintro e w' ⟨rfl, rfl⟩)
  go_ret2
  exact ⟨rfl, rfl⟩


open Go.Proofs.Qxb6630193a.Plain in
theorem standing_pos (cost gain burst lack : Int) (w : World) (hc : 1 ≤ cost) (hg : 1 ≤ gain) (hb : 1 ≤ burst) (hg' : gain ≤ 9223372036854775807) (hb' : burst ≤ 9223372036854775807)
    (hk' : burst * cost ≤ 9223372036854775807) (hl : 1 ≤ lack) (hl' : lack ≤ 9223372036854775807) :
    Calls Try.prog 6 #[.agg #[.int .i64 cost, .int .i64 gain, .int .i64 (burst * cost)], .int .i64 lack] w fun e w' =>
      e = .returned (.tuple #[.int .i64 (tokn cost (burst * cost) lack), .int .i64 (wait cost gain (burst * cost) lack)]) ∧ w' = w.alloc (rb cost gain (burst * cost)) := by
  have ⟨t1, t2, t3, t4, t5, t6⟩ := tok_spec cost burst lack (by omega) (by omega) hl
  have ⟨n1, n2⟩ := need_spec cost burst lack (by omega) (by omega) hl
  have ⟨w1, w2, w3, w4⟩ := wait_spec cost gain burst lack (by omega) (by omega) (by omega) hl
  have t7 : 0 ≤ (tokn cost (burst * cost) lack + 1) * cost := Int.mul_nonneg (by omega) (by omega)
  by_cases h : lack < burst * cost
  · have e : tokn cost (burst * cost) lack = (burst * cost - lack) / cost := by unfold tokn; rw [if_pos h]
    unfold wait at w1 w2 ⊢
    unfold need at n1 n2 w1 w2 ⊢
    rw [e] at n1 n2 w1 w2 t1 t2 t3 t7 ⊢
    exact standing_some cost gain (burst * cost) lack w hc hg hg' hk' hl hl' h t1 (by omega) t7 t3 n1 (by omega) (by omega)
  · have e : tokn cost (burst * cost) lack = 0 := t6 (by omega)
    unfold wait at w1 w2 ⊢
    unfold need at n1 n2 w1 w2 ⊢
    rw [e] at n1 n2 w1 w2 t3 ⊢
    rw [show (0 + 1) * cost = cost by omega] at n1 n2 w1 w2 t3 ⊢
    exact standing_none cost gain (burst * cost) lack w hc hg hg' hk' hl hl' (by omega) t3 (by omega) (by omega)

open Go.Proofs.Qxb6630193a.Plain in
theorem standing_zero (cost gain burst : Int) (w : World) (hc : 1 ≤ cost) (hb : 1 ≤ burst) (hk' : burst * cost ≤ 9223372036854775807) :
    Calls Try.prog 6 #[.agg #[.int .i64 cost, .int .i64 gain, .int .i64 (burst * cost)], .int .i64 0] w fun e w' =>
      e = .returned (.tuple #[.int .i64 burst, .int .i64 0]) ∧ w' = w.alloc (rb cost gain (burst * cost)) := by
  have h := standing_full cost gain (burst * cost) w hc (by have := Int.mul_le_mul_of_nonneg_right hb (show 0 ≤ cost by omega); omega) hk'
  rw [full cost burst (by omega)] at h
  exact h

end Go.Proofs.Qxb6630193a.Walks

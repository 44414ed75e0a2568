import Derived.Test.Qxb6630324aFmtRow
import Derived.Lib.TrailingZeros
namespace Go.Proofs.Qxb6630324aFmt.Walks
open Go.RowKit

/-- bit i of the words W -/
def bitW (W : Nat → Nat) (i : Nat) : Bool := (W (i / 64)).testBit (i % 64)
/-- j is the first from i on with p -/
def Fst (p : Nat → Bool) (i j : Nat) : Prop := i ≤ j ∧ p j = true ∧ ∀ t, i ≤ t → t < j → p t = false
def NS (b : Nat → Bool) (i : Nat) (r : Int) : Prop := (r = -1 ∧ ∀ j, i ≤ j → b j = false) ∨ ∃ j : Nat, r = (j : Int) ∧ Fst b i j
def NC (b : Nat → Bool) (i : Nat) (r : Int) : Prop := ∃ j : Nat, r = (j : Int) ∧ Fst (fun t => !b t) i j

theorem Fst.uniq {p : Nat → Bool} {i j j' : Nat} (h : Fst p i j) (h' : Fst p i j') : j = j' := by
  rcases Nat.lt_trichotomy j j' with hl | hl | hl
  · have := h'.2.2 j h.1 hl; rw [h.2.1] at this; cases this
  · exact hl
  · have := h.2.2 j' h'.1 hl; rw [h'.2.1] at this; cases this
theorem NS.uniq {b : Nat → Bool} {i : Nat} {r r' : Int} (h : NS b i r) (h' : NS b i r') : r = r' := by
  rcases h with ⟨rfl, h⟩ | ⟨j, rfl, h⟩ <;> rcases h' with ⟨rfl, h'⟩ | ⟨j', rfl, h'⟩
  · rfl
  · have := h j' h'.1; rw [h'.2.1] at this; cases this
  · have := h' j h.1; rw [h.2.1] at this; cases this
  · rw [h.uniq h']
theorem NC.uniq {b : Nat → Bool} {i : Nat} {r r' : Int} (h : NC b i r) (h' : NC b i r') : r = r' := by
  obtain ⟨j, rfl, h⟩ := h
  obtain ⟨j', rfl, h'⟩ := h'
  rw [h.uniq h']
theorem Fst.here {p : Nat → Bool} {i : Nat} (h : p i = true) : Fst p i i := ⟨Nat.le_refl _, h, fun t h1 h2 => by omega⟩
theorem Fst.back {p : Nat → Bool} {i j : Nat} (h : Fst p (i + 1) j) (hi : p i = false) : Fst p i j :=
  ⟨by have := h.1; omega, h.2.1, fun t h1 h2 => by
    by_cases ht : t = i
    · rw [ht]; exact hi
    · exact h.2.2 t (by omega) h2⟩
theorem NS.here {b : Nat → Bool} {i : Nat} (h : b i = true) : NS b i (i : Int) := .inr ⟨i, rfl, Fst.here h⟩
theorem NS.back {b : Nat → Bool} {i : Nat} {r : Int} (h : NS b (i + 1) r) (hi : b i = false) : NS b i r := by
  rcases h with ⟨rfl, h⟩ | ⟨j, rfl, h⟩
  · refine .inl ⟨rfl, fun j hj => ?_⟩
    by_cases h1 : j = i
    · rw [h1]; exact hi
    · exact h j (by omega)
  · exact .inr ⟨j, rfl, h.back hi⟩
theorem NC.here {b : Nat → Bool} {i : Nat} (h : b i = false) : NC b i (i : Int) := ⟨i, rfl, Fst.here (by simp [h])⟩
theorem NC.back {b : Nat → Bool} {i : Nat} {r : Int} (h : NC b (i + 1) r) (hi : b i = true) : NC b i r := by
  obtain ⟨j, rfl, h⟩ := h
  exact ⟨j, rfl, h.back (by simp [hi])⟩
theorem NS.bound {b : Nat → Bool} {i M : Nat} {r : Int} (h : NS b i r) (hb : ∀ j, M ≤ j → b j = false) : -1 ≤ r ∧ r < M ∨ r = -1 := by
  rcases h with ⟨rfl, _⟩ | ⟨j, rfl, h⟩
  · exact .inr rfl
  · refine .inl ⟨by omega, ?_⟩
    by_cases hj : M ≤ j
    · have := hb j hj; rw [h.2.1] at this; cases this
    · omega

/-- the mask from bit s on -/
theorem mask_bit (s t : Nat) (hs : s < 64) : (18446744073709551616 - 2 ^ s).testBit t = (decide (t < 64) && decide (s ≤ t)) := by
  have h1 : (2 : Nat) ^ s ≤ 2 ^ 64 := Nat.pow_le_pow_right (by omega) (by omega)
  have h2 : 0 < (2 : Nat) ^ s := Nat.pow_pos (by omega)
  have h3 : 18446744073709551616 - 2 ^ s = 2 ^ 64 - ((2 ^ s - 1) + 1) := by omega
  rw [h3, Nat.testBit_two_pow_sub_succ (by omega), Nat.testBit_two_pow_sub_one]
  by_cases h : t < s
  · simp [h]
  · simp [h]; intro _; omega

theorem not_bit (x t : Nat) (hx : x < 18446744073709551616) (ht : t < 64) : (18446744073709551615 - x).testBit t = !x.testBit t := by
  have h3 : 18446744073709551615 - x = 2 ^ 64 - (x + 1) := by omega
  rw [h3, Nat.testBit_two_pow_sub_succ (by omega)]
  simp [ht]

theorem ctz_bit (y : Nat) (h0 : y ≠ 0) (hy : y < 18446744073709551616) : Lib.ctz 64 y < 64 ∧ y.testBit (Lib.ctz 64 y) = true ∧ ∀ t, t < Lib.ctz 64 y → y.testBit t = false := by
  obtain ⟨m, hm, hc⟩ := Lib.ctzFrom_spec 64 y (by omega) (by exact hy)
  have e : Lib.ctz 64 y = Lib.ctzFrom 64 y := by simp [Lib.ctz, h0]
  rw [e]
  generalize Lib.ctzFrom 64 y = c at *
  refine ⟨hc, ?_, fun t ht => ?_⟩
  · rw [Nat.testBit_eq_decide_div_mod_eq, hm, Nat.mul_div_cancel_left _ (Nat.pow_pos (by omega))]
    simp
  · obtain ⟨d, rfl⟩ : ∃ d, c = t + (d + 1) := ⟨c - t - 1, by omega⟩
    rw [Nat.testBit_eq_decide_div_mod_eq, hm, Nat.pow_add, Nat.mul_assoc, Nat.mul_div_cancel_left _ (Nat.pow_pos (by omega)), Nat.pow_succ]
    have : 2 ^ d * 2 * (2 * m + 1) = 2 * (2 ^ d * (2 * m + 1)) := by rw [Nat.mul_comm (2 ^ d) 2, Nat.mul_assoc]
    rw [this]; simp

/-- a round of the scan -/
theorem round_zero (p : Nat → Bool) (X s k : Nat) (hs : s < 64) (hp : ∀ t, t < 64 → p (64 * k + t) = X.testBit t) (hy : X &&& (18446744073709551616 - 2 ^ s) = 0) (i : Nat) (hall : ∀ u, i ≤ u → u < 64 * k + s → p u = false) :
    ∀ u, i ≤ u → u < 64 * (k + 1) → p u = false := by
  intro u h1 h2
  by_cases h3 : u < 64 * k + s
  · exact hall u h1 h3
  · obtain ⟨t, rfl⟩ : ∃ t, u = 64 * k + t := ⟨u - 64 * k, by omega⟩
    rw [hp t (by omega)]
    have := congrArg (fun v => Nat.testBit v t) hy
    simp only [Nat.testBit_and, mask_bit s t hs, Nat.zero_testBit] at this
    rw [decide_eq_true (show t < 64 by omega), decide_eq_true (show s ≤ t by omega)] at this
    simpa using this
theorem round_hit (p : Nat → Bool) (X s k : Nat) (hX : X < 18446744073709551616) (hs : s < 64) (hp : ∀ t, t < 64 → p (64 * k + t) = X.testBit t) (hy : X &&& (18446744073709551616 - 2 ^ s) ≠ 0) (i : Nat) (hi : i ≤ 64 * k + s) (hall : ∀ u, i ≤ u → u < 64 * k + s → p u = false) :
    Fst p i (64 * k + Lib.ctz 64 (X &&& (18446744073709551616 - 2 ^ s))) := by
  obtain ⟨c1, c2, c3⟩ := ctz_bit _ hy (Nat.lt_of_le_of_lt Nat.and_le_left hX)
  generalize Lib.ctz 64 (X &&& (18446744073709551616 - 2 ^ s)) = c at *
  simp only [Nat.testBit_and, mask_bit s _ hs] at c2 c3
  rw [decide_eq_true c1] at c2
  simp only [Bool.true_and, Bool.and_eq_true, decide_eq_true_eq] at c2
  refine ⟨by omega, by rw [hp c c1]; exact c2.1, fun u h1 h2 => ?_⟩
  by_cases h3 : u < 64 * k + s
  · exact hall u h1 h3
  · obtain ⟨t, rfl⟩ : ∃ t, u = 64 * k + t := ⟨u - 64 * k, by omega⟩
    have h4 := c3 t (by omega)
    rw [decide_eq_true (show t < 64 by omega), decide_eq_true (show s ≤ t by omega)] at h4
    rw [hp t (by omega)]
    simpa using h4

theorem bitW_at (W : Nat → Nat) (k t : Nat) (ht : t < 64) : bitW W (64 * k + t) = (W k).testBit t := by
  unfold bitW
  rw [show (64 * k + t) / 64 = k by omega, show (64 * k + t) % 64 = t by omega]
theorem bitW_zero (W : Nat → Nat) (u : Nat) (h : W (u / 64) = 0) : bitW W u = false := by
  unfold bitW; rw [h]; simp
theorem wd_lt (z : Nat → Nat) (lo m k : Nat) (hz : ∀ j, z j < 18446744073709551616) : wd z lo m k < 18446744073709551616 := by
  unfold wd
  by_cases h : lo ≤ k ∧ k < lo + m
  · rw [if_pos h]; exact hz k
  · rw [if_neg h]; omega
theorem wd_low (z : Nat → Nat) (lo m k : Nat) (h : k < lo) : wd z lo m k = 0 := by unfold wd; rw [if_neg (by omega)]
theorem wd_high (z : Nat → Nat) (lo m k : Nat) (h : lo + m ≤ k) : wd z lo m k = 0 := by unfold wd; rw [if_neg (by omega)]

end Go.Proofs.Qxb6630324aFmt.Walks

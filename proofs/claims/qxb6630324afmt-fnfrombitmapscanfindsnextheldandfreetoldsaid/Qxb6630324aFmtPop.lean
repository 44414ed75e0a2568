import Derived.Test.Qxb6630324aFmtWord
import Derived.Laws.Bits64b
namespace Go.Proofs.Qxb6630324aFmt.Walks
open Go.RowKit

/-- how many of the low bits of x are set -/
def popf : Nat → Nat → Nat
  | 0, _ => 0
  | n + 1, x => x % 2 + popf n (x / 2)

theorem popf_le (n x : Nat) : popf n x ≤ n := by
  induction n generalizing x with
  | zero => exact Nat.le_refl _
  | succ n ih => have := ih (x / 2); simp only [popf]; omega
theorem popf_zero (n : Nat) : popf n 0 = 0 := by
  induction n with
  | zero => rfl
  | succ n ih => simp only [popf]; simpa using ih

theorem and_half (a b : Nat) : (a &&& b) / 2 = a / 2 &&& b / 2 := by have := @Nat.and_div_two_pow a b 1; simpa using this
theorem and_bit (a b : Nat) : (a &&& b) % 2 = a % 2 &&& b % 2 := by have := @Nat.and_mod_two_pow a b 1; simpa using this
theorem and_256d (a b : Nat) : (a &&& b) / 256 = a / 256 &&& b / 256 := by have := @Nat.and_div_two_pow a b 8; simpa using this
theorem and_256m (a b : Nat) : (a &&& b) % 256 = a % 256 &&& b % 256 := by have := @Nat.and_mod_two_pow a b 8; simpa using this

/-- Kernighan's step takes one bit -/
theorem popf_step (n x : Nat) (h0 : x ≠ 0) (hx : x < 2 ^ n) : popf n (x &&& (x - 1)) + 1 = popf n x := by
  induction n generalizing x with
  | zero => simp at hx; omega
  | succ n ih =>
    have hp : (2 : Nat) ^ (n + 1) = 2 * 2 ^ n := by rw [Nat.pow_succ]; omega
    simp only [popf]
    rw [and_half, and_bit]
    by_cases ho : x % 2 = 1
    · have e1 : (x - 1) / 2 = x / 2 := by omega
      have e2 : (x - 1) % 2 = 0 := by omega
      rw [e1, e2, Nat.and_self, Nat.and_zero, ho]; omega
    · have e1 : (x - 1) / 2 = x / 2 - 1 := by omega
      have e2 : x % 2 = 0 := by omega
      have := ih (x / 2) (by omega) (by omega)
      rw [e1, e2, Nat.zero_and]; omega

/-- eight bits, and the others -/
theorem popf_byte (n x : Nat) : popf (n + 8) x = popf 8 (x % 256) + popf n (x / 256) := by
  have h1 : popf (n + 8) x = x % 2 + (x / 2 % 2 + (x / 2 / 2 % 2 + (x / 2 / 2 / 2 % 2 + (x / 2 / 2 / 2 / 2 % 2 + (x / 2 / 2 / 2 / 2 / 2 % 2 + (x / 2 / 2 / 2 / 2 / 2 / 2 % 2 + (x / 2 / 2 / 2 / 2 / 2 / 2 / 2 % 2 + popf n (x / 2 / 2 / 2 / 2 / 2 / 2 / 2 / 2)))))))) := rfl
  rw [h1, show x / 2 / 2 / 2 / 2 / 2 / 2 / 2 / 2 = x / 256 by omega]
  generalize popf n (x / 256) = r
  simp only [popf]
  omega

def msk (b : Nat) : Nat → Nat
  | 0 => 0
  | k + 1 => b + 256 * msk b k
theorem msk55 : msk 85 8 = 6148914691236517205 := by decide
theorem msk33 : msk 51 8 = 3689348814741910323 := by decide
theorem msk0f : msk 15 8 = 1085102592571150095 := by decide

def s1 (k x : Nat) : Nat := (x / 2 &&& msk 85 k) + (x &&& msk 85 k)
def s2 (k x : Nat) : Nat := (x / 4 &&& msk 51 k) + (x &&& msk 51 k)
def s3 (k x : Nat) : Nat := (x / 16 + x) &&& msk 15 k

theorem tab1 : ∀ (b : Fin 256) (c : Fin 2), (b.val / 2 + 128 * c.val) &&& 85 = b.val / 2 &&& 85 := by decide +kernel
theorem tab2 : ∀ (b : Fin 256) (c : Fin 4), (b.val / 4 + 64 * c.val) &&& 51 = b.val / 4 &&& 51 := by decide +kernel
def t1 (b : Nat) : Nat := (b / 2 &&& 85) + (b &&& 85)
def t2 (b : Nat) : Nat := (t1 b / 4 &&& 51) + (t1 b &&& 51)
theorem t1_lt : ∀ b : Fin 256, t1 b.val < 256 := by decide +kernel
theorem t2_le : ∀ b : Fin 256, t2 b.val ≤ 68 ∧ t2 b.val % 16 ≤ 4 := by decide +kernel
theorem t3_eq : ∀ b : Fin 256, (t2 b.val / 16 + t2 b.val) % 16 = popf 8 b.val := by decide +kernel
theorem and15 : ∀ b : Fin 256, b.val &&& 15 = b.val % 16 := by decide +kernel

theorem split_and (x m b : Nat) (hb : b < 256) (M : Nat) (hm : m = b + 256 * M) : x &&& m = (x % 256 &&& b) + 256 * (x / 256 &&& M) := by
  have h1 := and_256m x m
  have h2 := and_256d x m
  rw [show m % 256 = b by omega] at h1
  rw [show m / 256 = M by omega] at h2
  rw [← h1, ← h2]; omega

theorem s1_succ (k x : Nat) : s1 (k + 1) x = t1 (x % 256) + 256 * s1 k (x / 256) := by
  unfold s1
  rw [split_and (x / 2) (msk 85 (k + 1)) 85 (by decide) (msk 85 k) rfl, split_and x (msk 85 (k + 1)) 85 (by decide) (msk 85 k) rfl]
  have h := tab1 ⟨x % 256, by omega⟩ ⟨x / 256 % 2, by omega⟩
  simp only at h
  rw [show x / 2 % 256 = x % 256 / 2 + 128 * (x / 256 % 2) by omega, h, show x / 2 / 256 = x / 256 / 2 by omega]
  unfold t1
  generalize (x / 256 / 2 &&& msk 85 k) = p
  generalize (x / 256 &&& msk 85 k) = q
  omega

theorem s2_succ (k x y b : Nat) (hb : b < 256) (hx : x = t1 b + 256 * y) : s2 (k + 1) x = t2 b + 256 * s2 k y := by
  have hl := t1_lt ⟨b, hb⟩
  simp only at hl
  unfold s2
  rw [split_and (x / 4) (msk 51 (k + 1)) 51 (by decide) (msk 51 k) rfl, split_and x (msk 51 (k + 1)) 51 (by decide) (msk 51 k) rfl]
  have h := tab2 ⟨x % 256, by omega⟩ ⟨x / 256 % 4, by omega⟩
  simp only at h
  rw [show x / 4 % 256 = x % 256 / 4 + 64 * (x / 256 % 4) by omega, h, show x / 4 / 256 = x / 256 / 4 by omega, show x % 256 = t1 b by omega, show x / 256 = y by omega]
  unfold t2
  generalize (y / 4 &&& msk 51 k) = p
  generalize (y &&& msk 51 k) = q
  omega

theorem s3_succ (k x y b : Nat) (hb : b < 256) (hy : y % 16 ≤ 4) (hx : x = t2 b + 256 * y) : s3 (k + 1) x = popf 8 b + 256 * s3 k y := by
  obtain ⟨hl, _⟩ := t2_le ⟨b, hb⟩
  have h3 := t3_eq ⟨b, hb⟩
  simp only at hl h3
  unfold s3
  rw [split_and (x / 16 + x) (msk 15 (k + 1)) 15 (by decide) (msk 15 k) rfl]
  have h := and15 ⟨(x / 16 + x) % 256, by omega⟩
  simp only at h
  have e1 : x / 16 = t2 b / 16 + 16 * y := by omega
  rw [h, show (x / 16 + x) / 256 = y / 16 + y by omega, ← h3, e1, hx]
  clear e1 h h3
  generalize (y / 16 + y &&& msk 15 k) = q
  generalize t2 b = t at *
  omega

theorem sw1 (k x : Nat) : ∃ r, s1 k x = r := ⟨_, rfl⟩
theorem s12 (k x : Nat) : s2 (k + 1) (s1 (k + 1) x) = t2 (x % 256) + 256 * s2 k (s1 k (x / 256)) := s2_succ k _ _ _ (by omega) (s1_succ k x)
theorem s12_low (k x : Nat) : s2 k (s1 k x) % 16 ≤ 4 := by
  cases k with
  | zero => simp [s2, msk]
  | succ k =>
    obtain ⟨_, h⟩ := t2_le ⟨x % 256, by omega⟩
    simp only at h
    rw [s12]; omega
theorem s123 (k x : Nat) : s3 (k + 1) (s2 (k + 1) (s1 (k + 1) x)) = popf 8 (x % 256) + 256 * s3 k (s2 k (s1 k (x / 256))) := s3_succ k _ _ _ (by omega) (s12_low k _) (s12 k x)
theorem s123_zero (x : Nat) : s3 0 (s2 0 (s1 0 x)) = 0 := by simp [s3, msk]

def ones (x : Nat) : Nat :=
  let a := s3 8 (s2 8 (s1 8 x))
  let b := a + a / 256
  let c := b + b / 65536
  let d := c + c / 4294967296
  d % 128

theorem bytes8 (x : Nat) : ∃ a b c d e f g h, s3 8 (s2 8 (s1 8 x)) = a + 256 * (b + 256 * (c + 256 * (d + 256 * (e + 256 * (f + 256 * (g + 256 * h)))))) ∧ popf 64 x = a + (b + (c + (d + (e + (f + (g + h)))))) ∧ a ≤ 8 ∧ b ≤ 8 ∧ c ≤ 8 ∧ d ≤ 8 ∧ e ≤ 8 ∧ f ≤ 8 ∧ g ≤ 8 ∧ h ≤ 8 := by
  refine ⟨popf 8 (x % 256), popf 8 (x / 256 % 256), popf 8 (x / 256 / 256 % 256), popf 8 (x / 256 / 256 / 256 % 256), popf 8 (x / 256 / 256 / 256 / 256 % 256), popf 8 (x / 256 / 256 / 256 / 256 / 256 % 256), popf 8 (x / 256 / 256 / 256 / 256 / 256 / 256 % 256), popf 8 (x / 256 / 256 / 256 / 256 / 256 / 256 / 256 % 256), ?_, ?_, popf_le _ _, popf_le _ _, popf_le _ _, popf_le _ _, popf_le _ _, popf_le _ _, popf_le _ _, popf_le _ _⟩
  · rw [s123, s123, s123, s123, s123, s123, s123, s123, s123_zero]; omega
  · rw [popf_byte 56, popf_byte 48, popf_byte 40, popf_byte 32, popf_byte 24, popf_byte 16, popf_byte 8, popf_byte 0]; simp only [popf]; omega

theorem fold8 (a b c d e f g h A B C : Nat) (h1 : a ≤ 8) (h2 : b ≤ 8) (h3 : c ≤ 8) (h4 : d ≤ 8) (h5 : e ≤ 8) (h6 : f ≤ 8) (h7 : g ≤ 8) (h8 : h ≤ 8)
    (hA : A = a + 256 * (b + 256 * (c + 256 * (d + 256 * (e + 256 * (f + 256 * (g + 256 * h))))))) (hB : B = A + A / 256) (hC : C = B + B / 65536) :
    (C + C / 4294967296) % 128 = a + (b + (c + (d + (e + (f + (g + h)))))) := by
  have q1 : A / 256 = b + 256 * (c + 256 * (d + 256 * (e + 256 * (f + 256 * (g + 256 * h))))) := by omega
  have q1' : B = (a + b) + 256 * ((b + c) + 256 * ((c + d) + 256 * ((d + e) + 256 * ((e + f) + 256 * ((f + g) + 256 * ((g + h) + 256 * h)))))) := by omega
  clear q1 hA hB
  have q2 : B / 65536 = (c + d) + 256 * ((d + e) + 256 * ((e + f) + 256 * ((f + g) + 256 * ((g + h) + 256 * h)))) := by omega
  have q2' : C = (a + b + c + d) + 256 * ((b + c + d + e) + 256 * ((c + d + e + f) + 256 * ((d + e + f + g) + 256 * ((e + f + g + h) + 256 * ((f + g + h) + 256 * ((g + h) + 256 * h)))))) := by omega
  clear q2 q1' hC
  have q3 : C / 4294967296 = (e + f + g + h) + 256 * ((f + g + h) + 256 * ((g + h) + 256 * h)) := by omega
  omega
theorem ones_eq (x : Nat) : ones x = popf 64 x := by
  obtain ⟨a, b, c, d, e, f, g, h, h1, h2, l1, l2, l3, l4, l5, l6, l7, l8⟩ := bytes8 x
  rw [h2]
  exact fold8 a b c d e f g h _ _ _ l1 l2 l3 l4 l5 l6 l7 l8 h1 rfl rfl
theorem s3_lt (x : Nat) : s3 8 (s2 8 (s1 8 x)) < 578721382704613385 := by
  obtain ⟨a, b, c, d, e, f, g, h, h1, _, _⟩ := bytes8 x
  rw [h1]; omega

end Go.Proofs.Qxb6630324aFmt.Walks

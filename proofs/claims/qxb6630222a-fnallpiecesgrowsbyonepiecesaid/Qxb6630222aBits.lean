import Derived.WalkKit
import Derived.Test.Qxb6630222aPlain
namespace Go.Proofs.Qxb6630222a.Plain

theorem sh_lt (n j : Nat) : sh n j < 9 := by unfold sh; omega

theorem tab_sub : ∀ s t : Fin 9, s.val ≤ t.val → bits .andNot .u8 (256 - 2 ^ t.val) (256 - 2 ^ s.val) = 0 := by decide +kernel
theorem tab_bit : ∀ s t : Fin 9, ∀ i : Fin 8, (bits .and .u8 (bits .andNot .u8 (256 - 2 ^ s.val) (256 - 2 ^ t.val)) (128 / 2 ^ i.val) != 0) = decide (i.val + s.val < 8 ∧ 8 ≤ i.val + t.val) := by decide +kernel

theorem sub_zero (m n j : Nat) (h : m ≤ n) : bits .andNot .u8 (pb m j) (pb n j) = 0 := by
  unfold pb
  exact tab_sub ⟨sh n j, sh_lt n j⟩ ⟨sh m j, sh_lt m j⟩ (by simp only [sh]; omega)

theorem diff_bit (m n j i : Nat) (hi : i < 8) (h : m ≤ n) :
    (bits .and .u8 (bits .andNot .u8 (pb n j) (pb m j)) (128 / 2 ^ i) != 0) = decide (m ≤ 8 * j + i ∧ 8 * j + i < n) := by
  unfold pb
  rw [show (128 / 2 ^ i : Int) = 128 / 2 ^ (⟨i, hi⟩ : Fin 8).val from rfl, tab_bit ⟨sh n j, sh_lt n j⟩ ⟨sh m j, sh_lt m j⟩ ⟨i, hi⟩]
  congr 1
  simp only [sh, eq_iff_iff]
  omega

end Go.Proofs.Qxb6630222a.Plain

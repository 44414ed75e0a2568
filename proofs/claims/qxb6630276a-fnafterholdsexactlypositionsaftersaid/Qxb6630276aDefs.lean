import Derived.WalkKit
import Derived.Laws.CopyOwn
namespace Go.Proofs.Qxb6630276a.Walks
open Go.RowKit

theorem hide {p : Prop} (h : p) : Hid p := h

/-- the cells of an array of 32 bytes -/
def A (f : Nat → Nat) : List Value := (List.range 32).map (fun j => .int .u8 (f j : Int))
/-- the cells of a Prefix -/
def pfx (f : Nat → Nat) (n : Nat) : List Value := A f ++ [.int .i64 (n : Int)]
/-- bit i of the bytes f, the first the most significant -/
def bit (f : Nat → Nat) (i : Nat) : Nat := f (i / 8) / 2 ^ (7 - i % 8) % 2

theorem A_length (f : Nat → Nat) : (A f).length = 32 := by simp [A]
theorem pfx_length (f : Nat → Nat) (n : Nat) : (pfx f n).length = 33 := by simp [pfx, A_length]
theorem A_size (f : Nat → Nat) : (A f).toArray.size = 32 := by rw [List.size_toArray, A_length]
theorem pfx_size (f : Nat → Nat) (n : Nat) : (pfx f n).toArray.size = 33 := by rw [List.size_toArray, pfx_length]
theorem A_get (f : Nat → Nat) (j : Nat) (h : j < 32) : (A f)[j]? = some (.int .u8 (f j : Int)) := by simp [A, h]
theorem pfx_get (f : Nat → Nat) (n j : Nat) (h : j < 32) : (pfx f n)[j]? = some (.int .u8 (f j : Int)) := by
  unfold pfx; rw [List.getElem?_append_left (by rw [A_length]; exact h), A_get f j h]
theorem pfx_last (f : Nat → Nat) (n : Nat) : (pfx f n)[32]? = some (.int .i64 (n : Int)) := by
  unfold pfx; rw [List.getElem?_append_right (by rw [A_length]; omega), A_length]; rfl
theorem A_one (f : Nat → Nat) : ∀ v ∈ A f, v.oneCell' = true := by
  intro v hv; simp only [A, List.mem_map] at hv; obtain ⟨j, _, rfl⟩ := hv; rfl
theorem pfx_one (f : Nat → Nat) (n : Nat) : ∀ v ∈ pfx f n, v.oneCell' = true := by
  intro v hv; simp only [pfx, List.mem_append, List.mem_singleton] at hv
  rcases hv with hv | rfl
  · exact A_one f v hv
  · rfl

theorem and_tab : ∀ y : Fin 256, bits .and .i64 (y.val : Int) 1 = ((y.val % 2 : Nat) : Int) := by decide +kernel

theorem div_cast (a k : Nat) : ((a : Int) / 2 ^ k) = ((a / 2 ^ k : Nat) : Int) := by simp

theorem bit_num (f : Nat → Nat) (i : Nat) (hf : f (i / 8) < 256) :
    bits .and .i64 (wrap64 ((f (i / 8) : Int) / 2 ^ (7 - i % 8))) 1 = ((bit f i : Nat) : Int) := by
  have h : f (i / 8) / 2 ^ (7 - i % 8) < 256 := Nat.lt_of_le_of_lt (Nat.div_le_self _ _) hf
  unfold bit
  rw [div_cast]
  generalize f (i / 8) / 2 ^ (7 - i % 8) = y at h ⊢
  rw [IntWalk.wrap64_in _ ⟨by omega, by omega⟩]
  exact and_tab ⟨y, h⟩

theorem ret_int {k : IntKind} {a b : Int} (h : a = b) : Ending.returned (.int k a) = .returned (.int k b) := by rw [h]

theorem bit_01 (f : Nat → Nat) (i : Nat) : bit f i = 0 ∨ bit f i = 1 := by unfold bit; omega

/-- the first n bits of f, zero beyond -/
def cut (f : Nat → Nat) (n j : Nat) : Nat := f j - f j % 2 ^ (8 - (n - 8 * j))
theorem cut_lt (f : Nat → Nat) (n : Nat) (hf : ∀ j, f j < 256) (j : Nat) : cut f n j < 256 := by have := hf j; unfold cut; omega
theorem cut_in (f : Nat → Nat) (n j : Nat) (h : 8 * (j + 1) ≤ n) : cut f n j = f j := by
  unfold cut; rw [show 8 - (n - 8 * j) = 0 by omega]; simp [Nat.mod_one]
theorem cut_out (f : Nat → Nat) (n j : Nat) (hf : f j < 256) (h : n ≤ 8 * j) : cut f n j = 0 := by
  unfold cut; rw [show 8 - (n - 8 * j) = 8 by omega, Nat.mod_eq_of_lt (by exact hf)]; omega

theorem andNot_tab : ∀ (r : Fin 8) (y : Fin 256), bits .andNot .u8 (y.val : Int) (255 / 2 ^ r.val) = ((y.val - y.val % 2 ^ (8 - r.val) : Nat) : Int) := by decide +kernel
theorem cut_at (f : Nat → Nat) (n : Nat) (hf : f (n / 8) < 256) : bits .andNot .u8 (f (n / 8) : Int) (255 / 2 ^ (n % 8)) = ((cut f n (n / 8) : Nat) : Int) := by
  have := andNot_tab ⟨n % 8, by omega⟩ ⟨f (n / 8), hf⟩
  unfold cut
  rw [show n - 8 * (n / 8) = n % 8 by omega]
  exact this

def zero24 : Array Value := Array.replicate 32 (.int .u8 0)
def zero26 : Array Value := Array.replicate 32 (.int .u8 0) ++ #[.int .i64 0]

theorem splice_get (Z X : List Value) (j : Nat) : (splice Z 0 X)[j]? = if j < X.length then X[j]? else Z[j]? := by
  unfold splice
  rw [List.take_zero, List.nil_append, Nat.zero_add]
  by_cases hj : j < X.length
  · rw [if_pos hj, List.getElem?_append_left hj]
  · rw [if_neg hj, List.getElem?_append_right (by omega), List.getElem?_drop]; congr 1; omega

theorem zero24_get (j : Nat) (h : j < 32) : zero24.toList[j]? = some (.int .u8 0) := by
  unfold zero24; rw [Array.toList_replicate, List.getElem?_replicate, if_pos h]
theorem zero24_len : zero24.toList.length = 32 := by simp [zero24]

theorem copied (f : Nat → Nat) (n j : Nat) (hn : n ≤ 256) (hf : ∀ j, f j < 256) (hj : j < 32) (h : n ≤ 8 * j ∨ 8 * (j + 1) ≤ n) :
    (splice zero24.toList 0 ((A f).take (n / 8)))[j]? = some (.int .u8 (cut f n j : Int)) := by
  have hl : ((A f).take (n / 8)).length = n / 8 := by rw [List.length_take, A_length]; omega
  rw [splice_get, hl]
  by_cases hc : j < n / 8
  · rw [if_pos hc, List.getElem?_take, if_pos hc, A_get f j hj, cut_in f n j (by omega)]
  · rw [if_neg hc, zero24_get j hj, cut_out f n j (hf j) (by omega)]; rfl

theorem copied_len (f : Nat → Nat) (n : Nat) : (splice zero24.toList 0 ((A f).take (n / 8))).length = 32 := by
  rw [length_splice _ _ _ (by rw [List.length_take, A_length, zero24_len]; omega), zero24_len]

theorem copied_whole (f : Nat → Nat) (n : Nat) (hn : n ≤ 256) (hf : ∀ j, f j < 256) (h8 : n % 8 = 0) :
    splice zero24.toList 0 ((A f).take (n / 8)) = A (cut f n) := by
  apply List.ext_getElem?
  intro j
  by_cases hj : j < 32
  · rw [copied f n j hn hf hj (by omega), A_get _ j hj]
  · rw [List.getElem?_eq_none (by rw [copied_len f n]; omega), List.getElem?_eq_none (by rw [A_length]; omega)]

theorem copied_set (f : Nat → Nat) (n : Nat) (hn : n ≤ 256) (hf : ∀ j, f j < 256) :
    (splice zero24.toList 0 ((A f).take (n / 8))).set (n / 8) (.int .u8 (bits .andNot .u8 (f (n / 8) : Int) (255 / 2 ^ (n % 8)))) = A (cut f n) := by
  rw [cut_at f n (hf _)]
  apply List.ext_getElem?
  intro j
  by_cases hj : j < 32
  · by_cases hk : j = n / 8
    · subst hk
      rw [List.getElem?_set_self (by rw [copied_len f n]; exact hj), A_get _ _ hj]
    · rw [List.getElem?_set_ne (by omega), copied f n j hn hf hj (by omega), A_get _ j hj]
  · rw [List.getElem?_eq_none (by rw [List.length_set, copied_len f n]; omega), List.getElem?_eq_none (by rw [A_length]; omega)]

end Go.Proofs.Qxb6630276a.Walks

namespace Go.Proofs.Qxb6630222a.Plain

/-- how many low bits of byte j are clear in the set of all of n pieces -/
def sh (n j : Nat) : Nat := min 8 (8 * (j + 1) - n)
/-- byte j of the set of all of n pieces -/
def pb (n j : Nat) : Int := 256 - 2 ^ sh n j


theorem shl_tab : ∀ s : Fin 9, (255 * 2 ^ s.val % 256 : Int) = (256 - 2 ^ s.val) % 256 := by decide

theorem pb_last (n : Nat) (h : n < (n + 7) / 8 * 8) : (255 * 2 ^ ((n + 7) / 8 * 8 - n) % 256 : Int) = pb n ((n + 7) / 8 - 1) := by
  have h1 : sh n ((n + 7) / 8 - 1) = (n + 7) / 8 * 8 - n := by unfold sh; omega
  have h2 : (n + 7) / 8 * 8 - n < 8 := by omega
  unfold pb
  rw [h1]
  have := shl_tab ⟨(n + 7) / 8 * 8 - n, by omega⟩
  simp only at this
  rw [this]
  have hp : (2 : Nat) ^ ((n + 7) / 8 * 8 - n) ≤ 2 ^ 8 := Nat.pow_le_pow_right (by omega) (by omega)
  have hq : 1 ≤ (2 : Nat) ^ ((n + 7) / 8 * 8 - n) := Nat.one_le_two_pow
  have hc : ((2 ^ ((n + 7) / 8 * 8 - n) : Nat) : Int) = (2 : Int) ^ ((n + 7) / 8 * 8 - n) := by simp
  omega

theorem pb_full (n j : Nat) (h : 8 * (j + 1) ≤ n) : pb n j = 255 := by
  have h1 : sh n j = 0 := by unfold sh; omega
  unfold pb; rw [h1]; rfl

theorem pb_none (n j : Nat) (h : (n + 7) / 8 ≤ j) : pb n j = 0 := by
  have h1 : sh n j = 8 := by unfold sh; omega
  unfold pb; rw [h1]; rfl

end Go.Proofs.Qxb6630222a.Plain

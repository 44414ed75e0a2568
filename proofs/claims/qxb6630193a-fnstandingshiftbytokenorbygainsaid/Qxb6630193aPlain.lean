namespace Go.Proofs.Qxb6630193a.Plain

def tokn (cost cap lack : Int) : Int := if lack < cap then (cap - lack) / cost else 0
def need (cost cap lack : Int) : Int := lack - (cap - (tokn cost cap lack + 1) * cost)
def wait (cost gain cap lack : Int) : Int := (need cost cap lack + gain - 1) / gain

theorem mul_le_of_le {a b c : Int} (hc : 0 ≤ c) (h : a ≤ b) : a * c ≤ b * c := Int.mul_le_mul_of_nonneg_right h hc
theorem lt_of_mul_lt {a b c : Int} (hc : 0 < c) (h : a * c < b * c) : a < b := Int.lt_of_mul_lt_mul_right h (Int.le_of_lt hc)
theorem le_of_mul_le {a b c : Int} (hc : 0 < c) (h : a * c ≤ b * c) : a ≤ b := Int.le_of_mul_le_mul_right h hc

theorem div_spec (x c : Int) (hc : 0 < c) : (x / c) * c ≤ x ∧ x < (x / c + 1) * c :=
  ⟨Int.ediv_mul_le x (by omega), Int.lt_ediv_add_one_mul_self x hc⟩

theorem div_uniq (x c q : Int) (hc : 0 < c) (h1 : q * c ≤ x) (h2 : x < (q + 1) * c) : x / c = q := by
  have ⟨a, b⟩ := div_spec x c hc
  have := lt_of_mul_lt hc (Int.lt_of_le_of_lt a h2)
  have := lt_of_mul_lt hc (Int.lt_of_le_of_lt h1 b)
  omega

/-- what the token count is, for a lack of at least 1 -/
theorem tok_spec (cost burst lack : Int) (hc : 0 < cost) (hb : 0 < burst) (hl : 1 ≤ lack) :
    0 ≤ tokn cost (burst * cost) lack ∧ tokn cost (burst * cost) lack < burst ∧
    (tokn cost (burst * cost) lack + 1) * cost ≤ burst * cost ∧
    burst * cost - lack < (tokn cost (burst * cost) lack + 1) * cost ∧
    (lack < burst * cost → tokn cost (burst * cost) lack * cost ≤ burst * cost - lack) ∧
    (burst * cost ≤ lack → tokn cost (burst * cost) lack = 0) := by
  unfold tokn
  by_cases h : lack < burst * cost
  · rw [if_pos h]
    have ⟨a, b⟩ := div_spec (burst * cost - lack) cost hc
    have hlt : (burst * cost - lack) / cost < burst := lt_of_mul_lt hc (by omega)
    have hnn : 0 ≤ (burst * cost - lack) / cost := Int.ediv_nonneg (by omega) (by omega)
    have hm : ((burst * cost - lack) / cost + 1) * cost ≤ burst * cost := mul_le_of_le (by omega) (by omega)
    exact ⟨hnn, hlt, hm, b, fun _ => a, fun h' => by omega⟩
  · rw [if_neg h]
    have hm : (0 + 1) * cost ≤ burst * cost := mul_le_of_le (by omega) (by omega)
    exact ⟨by omega, by omega, hm, by omega, fun h' => absurd h' h, fun _ => rfl⟩

/-- a token count is known by its bounds -/
theorem tok_uniq (cost burst lack q : Int) (hc : 0 < cost)
    (h1 : burst * cost - lack < (q + 1) * cost) (h2 : q * cost ≤ burst * cost - lack ∨ q = 0) (h0 : 0 ≤ q) :
    tokn cost (burst * cost) lack = q := by
  unfold tokn
  by_cases h : lack < burst * cost
  · rw [if_pos h]
    refine div_uniq _ _ _ hc ?_ h1
    rcases h2 with h2 | h2
    · exact h2
    · subst h2; omega
  · rw [if_neg h]
    rcases h2 with h2 | h2
    · have : q * cost ≤ 0 * cost := by omega
      have := le_of_mul_le hc this
      omega
    · exact h2.symm

theorem need_spec (cost burst lack : Int) (hc : 0 < cost) (hb : 0 < burst) (hl : 1 ≤ lack) :
    1 ≤ need cost (burst * cost) lack ∧ need cost (burst * cost) lack ≤ lack := by
  have ⟨_, _, c, d, _⟩ := tok_spec cost burst lack hc hb hl
  unfold need
  omega

theorem wait_spec (cost gain burst lack : Int) (hc : 0 < cost) (hg : 0 < gain) (hb : 0 < burst) (hl : 1 ≤ lack) :
    1 ≤ wait cost gain (burst * cost) lack ∧ wait cost gain (burst * cost) lack ≤ need cost (burst * cost) lack ∧
    (wait cost gain (burst * cost) lack - 1) * gain < need cost (burst * cost) lack ∧
    need cost (burst * cost) lack ≤ wait cost gain (burst * cost) lack * gain := by
  have ⟨n1, n2⟩ := need_spec cost burst lack hc hb hl
  unfold wait
  generalize need cost (burst * cost) lack = a at *
  have ⟨p, q⟩ := div_spec (a + gain - 1) gain hg
  generalize (a + gain - 1) / gain = d at *
  have e1 : (d + 1) * gain = d * gain + gain := by rw [Int.add_mul, Int.one_mul]
  have e2 : (d - 1) * gain = d * gain - gain := by rw [Int.sub_mul, Int.one_mul]
  have h1 : 1 ≤ d := by
    have : 0 * gain < d * gain := by omega
    have := lt_of_mul_lt hg this
    omega
  have h4 : (d - 1) * 1 ≤ (d - 1) * gain := Int.mul_le_mul_of_nonneg_left (by omega) (by omega)
  refine ⟨h1, by omega, by omega, by omega⟩


theorem full (cost burst : Int) (hc : 0 < cost) : burst * cost / cost = burst := Int.mul_ediv_cancel _ (by omega)

/-- behind one nanosecond fewer than the wait: the same count -/
theorem before_spec (cost gain burst lack : Int) (hc : 0 < cost) (hg : 0 < gain) (hb : 0 < burst) (hl : 1 ≤ lack) :
    wait cost gain (burst * cost) lack - 1 ≤ lack / gain ∧
    1 ≤ lack - (wait cost gain (burst * cost) lack - 1) * gain ∧
    0 ≤ (wait cost gain (burst * cost) lack - 1) * gain ∧
    tokn cost (burst * cost) (lack - (wait cost gain (burst * cost) lack - 1) * gain) = tokn cost (burst * cost) lack := by
  have ⟨w1, _, w3, _⟩ := wait_spec cost gain burst lack hc hg hb hl
  have ⟨n1, n2⟩ := need_spec cost burst lack hc hb hl
  have ⟨t1, t2, t3, t4, t5, t6⟩ := tok_spec cost burst lack hc hb hl
  have w5 : 0 * gain ≤ (wait cost gain (burst * cost) lack - 1) * gain := mul_le_of_le (by omega) (by omega)
  refine ⟨Int.le_ediv_of_mul_le hg (by omega), by omega, by omega, ?_⟩
  refine tok_uniq _ _ _ _ hc ?_ ?_ t1
  · unfold need at w3; omega
  · by_cases h : lack < burst * cost
    · left; have := t5 h; omega
    · right; exact t6 (by omega)

/-- behind the wait: a greater count, or full -/
theorem after_spec (cost gain burst lack : Int) (hc : 0 < cost) (hg : 0 < gain) (hb : 0 < burst) (hl : 1 ≤ lack)
    (ha : 1 ≤ lack - (wait cost gain (burst * cost) lack - 1) * gain - gain) :
    tokn cost (burst * cost) lack < tokn cost (burst * cost) (lack - (wait cost gain (burst * cost) lack - 1) * gain - gain) := by
  have ⟨_, _, _, w4⟩ := wait_spec cost gain burst lack hc hg hb hl
  have e2 : (wait cost gain (burst * cost) lack - 1) * gain = wait cost gain (burst * cost) lack * gain - gain := by rw [Int.sub_mul, Int.one_mul]
  unfold need at w4
  generalize tokn cost (burst * cost) lack = t at *
  generalize he : lack - (wait cost gain (burst * cost) lack - 1) * gain - gain = x at *
  have ⟨_, _, _, t4, _⟩ := tok_spec cost burst x hc hb ha
  have := lt_of_mul_lt hc (show (t + 1) * cost < (tokn cost (burst * cost) x + 1) * cost by omega)
  omega

theorem held_spec (cost burst lack : Int) (hc : 0 < cost) (hb : 0 < burst) (hl : 1 ≤ lack) (h : lack < burst * cost) :
    tokn cost (burst * cost) lack * cost ≤ burst * cost - lack ∧ burst * cost - lack - tokn cost (burst * cost) lack * cost < cost ∧ 0 ≤ tokn cost (burst * cost) lack * cost := by
  have ⟨t1, t2, t3, t4, t5, t6⟩ := tok_spec cost burst lack hc hb hl
  have e : (tokn cost (burst * cost) lack + 1) * cost = tokn cost (burst * cost) lack * cost + cost := by rw [Int.add_mul, Int.one_mul]
  have := Int.mul_nonneg t1 (Int.le_of_lt hc)
  exact ⟨t5 h, by omega, this⟩

/-! the second law -/
theorem one_less (cost burst : Int) (hc : 0 < cost) (hb : 0 < burst) : tokn cost (burst * cost) 1 = burst - 1 := by
  refine tok_uniq _ _ _ _ hc ?_ (Or.inl ?_) (by omega)
  · rw [show burst - 1 + 1 = burst by omega]; omega
  · rw [Int.sub_mul, Int.one_mul]; omega

theorem shift_token (cost burst lack : Int) (hc : 0 < cost) (hb : 0 < burst) (hl : 1 ≤ lack) (h : lack ≤ burst * cost - cost) :
    tokn cost (burst * cost) (lack + cost) = tokn cost (burst * cost) lack - 1 := by
  have ⟨t1, t2, t3, t4, t5, t6⟩ := tok_spec cost burst lack hc hb hl
  have t5 := t5 (by omega)
  have e : (tokn cost (burst * cost) lack + 1) * cost = tokn cost (burst * cost) lack * cost + cost := by rw [Int.add_mul, Int.one_mul]
  have e' : (tokn cost (burst * cost) lack - 1) * cost = tokn cost (burst * cost) lack * cost - cost := by rw [Int.sub_mul, Int.one_mul]
  have h1 : 0 < tokn cost (burst * cost) lack := lt_of_mul_lt hc (by omega)
  refine tok_uniq _ _ _ _ hc ?_ (Or.inl ?_) (by omega)
  · rw [show tokn cost (burst * cost) lack - 1 + 1 = tokn cost (burst * cost) lack by omega]; omega
  · omega

theorem shift_token_wait (cost gain burst lack : Int) (hc : 0 < cost) (hb : 0 < burst) (hl : 1 ≤ lack) (h : lack ≤ burst * cost - cost) :
    wait cost gain (burst * cost) (lack + cost) = wait cost gain (burst * cost) lack := by
  have e : need cost (burst * cost) (lack + cost) = need cost (burst * cost) lack := by
    unfold need
    rw [shift_token cost burst lack hc hb hl h]
    have e : (tokn cost (burst * cost) lack + 1) * cost = tokn cost (burst * cost) lack * cost + cost := by rw [Int.add_mul, Int.one_mul]
    have e' : (tokn cost (burst * cost) lack - 1 + 1) * cost = tokn cost (burst * cost) lack * cost := by rw [show tokn cost (burst * cost) lack - 1 + 1 = tokn cost (burst * cost) lack by omega]
    omega
  unfold wait
  rw [e]

theorem none_held (cost burst lack : Int) (hc : 0 < cost) (h : burst * cost - cost < lack) :
    tokn cost (burst * cost) lack = 0 := tok_uniq _ _ _ _ hc (by omega) (Or.inr rfl) (by omega)

theorem shift_gain_wait (cost gain burst lack : Int) (hc : 0 < cost) (hg : 0 < gain) (h : burst * cost - cost < lack) :
    wait cost gain (burst * cost) (lack + gain) = wait cost gain (burst * cost) lack + 1 := by
  unfold wait need
  rw [none_held cost burst lack hc h, none_held cost burst (lack + gain) hc (by omega)]
  rw [show lack + gain - (burst * cost - (0 + 1) * cost) + gain - 1 = (lack - (burst * cost - (0 + 1) * cost) + gain - 1) + 1 * gain by omega]
  rw [Int.add_mul_ediv_right _ _ (by omega)]

end Go.Proofs.Qxb6630193a.Plain

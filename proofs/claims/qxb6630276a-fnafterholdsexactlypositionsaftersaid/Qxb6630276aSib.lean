import Derived.Test.Qxb6630276aHelp
namespace Go.Proofs.Qxb6630276a.Walks
open Go.RowKit

theorem flip_tab : ∀ (r c : Fin 8) (y : Fin 256), (y.val ^^^ (128 / 2 ^ r.val)) / 2 ^ (7 - c.val) % 2 = if c = r then 1 - y.val / 2 ^ (7 - c.val) % 2 else y.val / 2 ^ (7 - c.val) % 2 := by decide +kernel

theorem bit_flip (g : Nat → Nat) (i0 i : Nat) (hg : ∀ j, g j < 256) : bit (flip g i0) i = if i = i0 then 1 - bit g i else bit g i := by
  unfold bit flip
  by_cases hj : i / 8 = i0 / 8
  · rw [if_pos hj]
    have := flip_tab ⟨i0 % 8, by omega⟩ ⟨i % 8, by omega⟩ ⟨g (i / 8), hg _⟩
    simp only [Fin.mk.injEq] at this
    rw [this]
    by_cases hc : i % 8 = i0 % 8
    · rw [if_pos hc, if_pos (by omega)]
    · rw [if_neg hc, if_neg (fun h => hc (by rw [h]))]
  · rw [if_neg hj, if_neg (fun h => hj (by rw [h]))]

theorem bit_cut_out (f : Nat → Nat) (n i : Nat) (h : n ≤ i) : bit (cut f n) i = 0 := by
  unfold bit cut
  generalize f (i / 8) = y
  have hk : 7 - i % 8 + 1 ≤ 8 - (n - 8 * (i / 8)) := by omega
  generalize 8 - (n - 8 * (i / 8)) = k at *
  generalize 7 - i % 8 = e at *
  have h1 : y - y % 2 ^ k = 2 ^ k * (y / 2 ^ k) := by have := Nat.div_add_mod y (2 ^ k); omega
  rw [h1, show 2 ^ k = 2 ^ e * (2 * 2 ^ (k - e - 1)) by rw [← Nat.pow_succ', ← Nat.pow_add]; congr 1; omega, Nat.mul_assoc, Nat.mul_div_cancel_left _ (Nat.two_pow_pos e), Nat.mul_assoc]
  omega

theorem sib_lt (f : Nat → Nat) (l : Nat) (hf : ∀ j, f j < 256) (j : Nat) : sib f l j < 256 := flip_lt _ _ (cut_lt f l hf) j

theorem sib_bit (f : Nat → Nat) (l i : Nat) (hf : ∀ j, f j < 256) (h1 : 1 ≤ l) (hb : bit f (l - 1) = 0) :
    bit (sib f l) i = if i < l - 1 then bit f i else if i = l - 1 then 1 else 0 := by
  unfold sib
  rw [bit_flip _ _ _ (cut_lt f l hf)]
  by_cases h : i = l - 1
  · rw [if_pos h, if_neg (by omega), if_pos h, h, bit_cut f l _ (by omega), hb]
  · rw [if_neg h, if_neg h]
    by_cases hl : i < l - 1
    · rw [if_pos hl, bit_cut f l _ (by omega)]
    · rw [if_neg hl, bit_cut_out f l _ (by omega)]

theorem els_desc (f : Nat → Nat) (n : Nat) : (els f n).Pairwise (fun a b => b < a) := by
  induction n with
  | zero => exact List.Pairwise.nil
  | succ n ih =>
    rw [els]
    split
    · exact List.Pairwise.cons (fun l hl => by have := (els_mem f n l hl).2.1; omega) ih
    · exact ih

theorem els_next (f : Nat → Nat) (n k l l' : Nat) (h1 : 1 ≤ k) (h : (els f n)[k]? = some l) (h' : (els f n)[k - 1]? = some l') : l < l' := by
  obtain ⟨hk, e⟩ := List.getElem?_eq_some_iff.1 h
  obtain ⟨hk', e'⟩ := List.getElem?_eq_some_iff.1 h'
  have := List.pairwise_iff_getElem.1 (els_desc f n) (k - 1) k hk' hk (by omega)
  rw [e, e'] at this; exact this

theorem els_has (f : Nat → Nat) (n l : Nat) (h1 : 1 ≤ l) (hl : l ≤ n) (hb : bit f (l - 1) = 0) : l ∈ els f n := by
  induction n with
  | zero => omega
  | succ n ih =>
    rw [els]
    by_cases he : l = n + 1
    · subst he; rw [Nat.add_sub_cancel] at hb; rw [if_pos hb]; simp
    · have := ih (by omega)
      split
      · exact List.mem_cons_of_mem _ this
      · exact this

theorem els_nodup (f : Nat → Nat) (n : Nat) : (els f n).Nodup := (els_desc f n).imp (fun h => by omega)

theorem els_zeros (f : Nat → Nat) (n : Nat) : (els f n).length = zc f 0 n := by
  obtain ⟨t, h1, h2, _⟩ := els_top f 0 n (Nat.zero_le _)
  rw [h1, els, List.append_nil, h2]

/-- what zzZeroBeyond, zzBefore and zzHolds find of the prefixes of After -/
theorem sib_zero (f : Nat → Nat) (l : Nat) (hf : ∀ j, f j < 256) (h1 : 1 ≤ l) (hb : bit f (l - 1) = 0) : ∀ i, l ≤ i → i < 256 → bit (sib f l) i = 0 := by
  intro i hi _
  rw [sib_bit f l i hf h1 hb, if_neg (by omega), if_neg (by omega)]

theorem sib_before (f : Nat → Nat) (l l' : Nat) (hf : ∀ j, f j < 256) (h1 : 1 ≤ l) (hb : bit f (l - 1) = 0) (hb' : bit f (l' - 1) = 0) (h : l < l') :
    (∀ i, i < l - 1 → bit (sib f l') i = bit (sib f l) i) ∧ bit (sib f l') (l - 1) = 0 ∧ bit (sib f l) (l - 1) = 1 := by
  refine ⟨fun i hi => ?_, ?_, ?_⟩
  · rw [sib_bit f l' i hf (by omega) hb', if_pos (by omega), sib_bit f l i hf h1 hb, if_pos hi]
  · rw [sib_bit f l' _ hf (by omega) hb', if_pos (by omega), hb]
  · rw [sib_bit f l _ hf h1 hb, if_neg (by omega), if_pos rfl]

theorem sib_holds (f q : Nat → Nat) (l : Nat) (hf : ∀ j, f j < 256) (h1 : 1 ≤ l) (hb : bit f (l - 1) = 0) :
    holdB (sib f l) l q = decide ((∀ i, i < l - 1 → bit f i = bit q i) ∧ bit q (l - 1) = 1) := by
  unfold holdB
  congr 1
  apply propext
  constructor
  · intro h
    refine ⟨fun i hi => ?_, ?_⟩
    · have := h i (by omega); rw [sib_bit f l i hf h1 hb, if_pos hi] at this; exact this
    · have := h (l - 1) (by omega); rw [sib_bit f l _ hf h1 hb, if_neg (by omega), if_pos rfl] at this; exact this.symm
  · rintro ⟨h, h'⟩ i hi
    rw [sib_bit f l i hf h1 hb]
    by_cases hl : i < l - 1
    · rw [if_pos hl]; exact h i hl
    · rw [if_neg hl, if_pos (by omega), show i = l - 1 by omega, h']

/-- ALL n BITS ALIKE: none holds q -/
theorem case_same (f q : Nat → Nat) (n : Nat) (hf : ∀ j, f j < 256) (h : ∀ i, i < n → bit f i = bit q i) : ∀ l, l ∈ els f n → holdB (sib f l) l q = (l == 0) := by
  intro l hl
  obtain ⟨h1, h2, h3⟩ := els_mem f n l hl
  rw [sib_holds f q l hf h1 h3, decide_eq_false (fun ⟨_, h'⟩ => by rw [← h (l - 1) (by omega)] at h'; omega)]
  exact (beq_eq_false_iff_ne.2 (by omega)).symm

/-- THE FIRST DIFFERENCE AT d: the one of length d + 1 alone, where q has 1 there -/
theorem case_diff (f q : Nat → Nat) (n d : Nat) (hf : ∀ j, f j < 256) (h : ∀ i, i < d → bit f i = bit q i) (hd : bit f d ≠ bit q d) :
    ∀ l, l ∈ els f n → holdB (sib f l) l q = (l == if bit q d = 1 then d + 1 else 0) := by
  intro l hl
  obtain ⟨h1, h2, h3⟩ := els_mem f n l hl
  rw [sib_holds f q l hf h1 h3]
  by_cases hq : bit q d = 1
  · rw [if_pos hq]
    by_cases he : l = d + 1
    · subst he
      rw [decide_eq_true ⟨fun i hi => h i (by omega), hq⟩]; simp
    · rw [beq_eq_false_iff_ne.2 he]
      apply decide_eq_false
      rintro ⟨k1, k2⟩
      by_cases hlt : l - 1 < d
      · have := h (l - 1) hlt; omega
      · exact hd (k1 d (by omega))
  · rw [if_neg hq, beq_eq_false_iff_ne.2 (show l ≠ 0 by omega)]
    apply decide_eq_false
    rintro ⟨k1, k2⟩
    by_cases hlt : l - 1 < d
    · have := h (l - 1) hlt; omega
    · by_cases heq : l - 1 = d
      · rw [heq] at k2; exact hq k2
      · exact hd (k1 d (by omega))

theorem count_take (ls : List Nat) (t k l : Nat) (h : ls[k]? = some l) : (ls.take (k + 1)).count t = (ls.take k).count t + if l == t then 1 else 0 := by
  obtain ⟨hk, e⟩ := List.getElem?_eq_some_iff.1 h
  rw [List.take_succ_eq_append_getElem hk, List.count_append, e, List.count_singleton]

theorem count_none (f : Nat → Nat) (n : Nat) : (els f n).count 0 = 0 := List.count_eq_zero.2 (fun h => by have := (els_mem f n 0 h).1; omega)
theorem count_one (f : Nat → Nat) (n d : Nat) (hd : d < n) (hb : bit f d = 0) : (els f n).count (d + 1) = 1 := by
  rw [List.Nodup.count (els_nodup f n), if_pos (els_has f n (d + 1) (by omega) (by omega) (by simpa using hb))]

end Go.Proofs.Qxb6630276a.Walks

import Derived.Test.Qxb6630276aAfter2
namespace Go.Proofs.Qxb6630276a.Walks
open Go.RowKit

/-- the zero bits of f at m .. i-1 -/
def zc (f : Nat → Nat) (m : Nat) : Nat → Nat
  | 0 => 0
  | i + 1 => if m ≤ i ∧ bit f i = 0 then zc f m i + 1 else zc f m i

theorem zc_low (f : Nat → Nat) (m i : Nat) (h : i ≤ m) : zc f m i = 0 := by
  induction i with
  | zero => rfl
  | succ i ih => rw [zc, if_neg (by omega), ih (by omega)]
theorem zc_le (f : Nat → Nat) (m i : Nat) : zc f m i ≤ i := by
  induction i with
  | zero => exact Nat.le_refl _
  | succ i ih => rw [zc]; split <;> omega
theorem zc_hit (f : Nat → Nat) (m i : Nat) (h : m ≤ i) (hb : bit f i = 0) : zc f m (i + 1) = zc f m i + 1 := by rw [zc, if_pos ⟨h, hb⟩]
theorem zc_miss (f : Nat → Nat) (m i : Nat) (hb : bit f i ≠ 0) : zc f m (i + 1) = zc f m i := by rw [zc, if_neg (fun h => hb h.2)]

theorem els_mem (f : Nat → Nat) (n l : Nat) (h : l ∈ els f n) : 1 ≤ l ∧ l ≤ n ∧ bit f (l - 1) = 0 := by
  induction n with
  | zero => simp [els] at h
  | succ n ih =>
    rw [els] at h
    split at h
    · rename_i hb
      rcases List.mem_cons.1 h with rfl | h
      · exact ⟨by omega, Nat.le_refl _, hb⟩
      · have := ih h; exact ⟨this.1, by omega, this.2.2⟩
    · have := ih h; exact ⟨this.1, by omega, this.2.2⟩

/-- the list for n begins with the lengths beyond m, as many as the zero bits from m on; the rest is the list for m -/
theorem els_top (f : Nat → Nat) (m n : Nat) (h : m ≤ n) : ∃ t, els f n = t ++ els f m ∧ t.length = zc f m n ∧ ∀ l ∈ t, m < l := by
  induction n with
  | zero =>
    obtain rfl : m = 0 := by omega
    exact ⟨[], rfl, rfl, fun l hl => by simp at hl⟩
  | succ n ih =>
    by_cases hm : m = n + 1
    · subst hm
      exact ⟨[], rfl, by rw [zc_low _ _ _ (Nat.le_refl _)]; rfl, fun l hl => by simp at hl⟩
    · obtain ⟨t, h1, h2, h3⟩ := ih (by omega)
      by_cases hb : bit f n = 0
      · refine ⟨(n + 1) :: t, ?_, ?_, ?_⟩
        · rw [els, if_pos hb, h1]; rfl
        · rw [zc_hit _ _ _ (by omega) hb, List.length_cons, h2]
        · intro l hl
          rcases List.mem_cons.1 hl with rfl | hl
          · omega
          · exact h3 l hl
      · refine ⟨t, ?_, ?_, h3⟩
        · rw [els, if_neg hb, h1]
        · rw [zc_miss _ _ _ hb, h2]

theorem flat_get (r : Nat → List Value) (hr : ∀ l, (r l).length = 33) : ∀ (ls : List Nat) (i l j : Nat), ls[i]? = some l → j < 33 → (ls.flatMap r)[i * 33 + j]? = (r l)[j]?
  | [], i, l, j, h, _ => by simp at h
  | x :: xs, 0, l, j, h, hj => by
    simp at h; subst h
    rw [List.flatMap_cons, Nat.zero_mul, Nat.zero_add, List.getElem?_append_left (by rw [hr]; exact hj)]
  | x :: xs, i + 1, l, j, h, hj => by
    have h' : xs[i]? = some l := by simpa using h
    rw [List.flatMap_cons, List.getElem?_append_right (by rw [hr]; omega), hr, show (i + 1) * 33 + j - 33 = i * 33 + j by omega]
    exact flat_get r hr xs i l j h' hj

/-- what is known of the slice that After hands back -/
structure View (f : Nat → Nat) (ls : List Nat) (a : Option Addr) (B : Nat) (w : World) : Prop where
  at_ : ∀ i l, ls[i]? = some l → ∃ g, a = some ⟨g, 0, none⟩ ∧ g < B ∧ w.rangeAt g (i * 33) (pfx (sib f l) l)

theorem view_of {w : World} {f : Nat → Nat} {ls : List Nat} {base : Nat} {v : Value} (h : w.ownsRow base 26 33 v ls.length (rows f ls)) :
    ∃ a cap, v = .slice a ls.length cap ∧ View f ls a w.heap.size w := by
  rcases h.2 with ⟨rfl, h0⟩ | ⟨g, cap, cur, rfl, _, hg, _, _, _, ht⟩
  · refine ⟨.none, 0, by rw [h0], ⟨fun i l hl => ?_⟩⟩
    rw [List.eq_nil_of_length_eq_zero h0] at hl; simp at hl
  · refine ⟨some ⟨g, 0, none⟩, cap, rfl, ⟨fun i l hl => ⟨g, rfl, (Array.getElem?_eq_some_iff.1 hg).1, fun j u hu => ?_⟩⟩⟩
    have hi : i < ls.length := (List.getElem?_eq_some_iff.1 hl).1
    have hj : j < 33 := by have := (List.getElem?_eq_some_iff.1 hu).1; rw [pfx_length] at this; exact this
    have e := flat_get (fun l => pfx (sib f l) l) (fun l => pfx_length _ _) ls i l j hl hj
    have e2 := h.cellAt (i * 33 + j) (by omega)
    rw [e2]
    unfold rows
    rw [e]
    exact hu

theorem View.next {f : Nat → Nat} {ls : List Nat} {a : Option Addr} {B B' : Nat} {w w' : World} (h : View f ls a B w) (hb : Below B' w w') (hB : B ≤ B') : View f ls a B w' :=
  ⟨fun i l hl => by
    obtain ⟨g, h1, h2, h3⟩ := h.at_ i l hl
    exact ⟨g, h1, h2, range_below hb (by omega) h3⟩⟩

end Go.Proofs.Qxb6630276a.Walks

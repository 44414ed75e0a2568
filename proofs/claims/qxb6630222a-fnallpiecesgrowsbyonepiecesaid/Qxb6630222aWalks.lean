import Derived.Test.Qxb6630222aChecked
import Derived.WalkKit
import Derived.ProofKit
import Derived.WalkSpells
import Derived.Laws.OwnMore
import Derived.Outline
import Derived.Test.Qxb6630222aPlain
namespace Go.Proofs.Qxb6630222a.Walks
open Go.RowKit Go.Proofs.Qxb6630222a.Plain

theorem info5 : (Try.prog.info? 5).map (fun i => (i.zero, i.size, i.bytes)) = some (some (.int .u8 0), 1, 1) := by kernel_rfl

/-- the result of NewBitfield -/
def sl (g n : Nat) : Value := .slice (some ⟨g, 0, none⟩) ((n + 7) / 8) ((n + 7) / 8)

set_option maxHeartbeats 400000 in
theorem new_any (n : Nat) (w : World) (hn : n ≤ 70000) :
    Calls Try.prog 7 #[.int .i64 n] w fun e w' => e = .returned (sl w.heap.size n) ∧
      w'.ownsRow w.heap.size 5 1 (sl w.heap.size n) ((n + 7) / 8) (List.replicate ((n + 7) / 8) (.int .u8 0)) ∧ w.grownBy w' none := by
  obtain ⟨i0, hi, hz0, hz1, hz2⟩ := info_parts info5
  go_enter Try.func7, Try.ntmps7
  go_wp2_with (at_make; refine wpList_make_full _ rfl _ _ 23 rfl w.heap.size 5 i0 (.int .u8 0) 1 Try.underlying23 hi hz0 hz1 .i64 .i64 _ _ ((n + 7) / 8) rfl rfl (by omega) (by omega) (by rw [hz2]; omega) (by unfold maxLen; omega) (Nat.le_refl _) ?_; intro w0 hown0 hgrow0)
  go_ret
  refine ⟨rfl, ?_, hgrow0⟩
  rw [Nat.mul_one] at hown0
  rw [← toList_madeCells_one]
  exact hown0


/-- the row after k rounds of the fill -/
def fill (L k : Nat) : List Value := List.replicate k (.int .u8 255) ++ List.replicate (L - k) (.int .u8 0)

theorem fill_set (L k : Nat) (h : k < L) : (fill L k).set k (.int .u8 255) = fill L (k + 1) := by
  unfold fill
  rw [List.set_append_right _ _ (by simp), List.length_replicate, Nat.sub_self]
  obtain ⟨m, hm⟩ : ∃ m, L - k = m + 1 := ⟨L - k - 1, by omega⟩
  rw [hm, show L - (k + 1) = m by omega, List.replicate_succ, List.set_cons_zero, List.replicate_succ', List.append_assoc]
  rfl

theorem fill_next (L k : Nat) (h : k < L) : (fill L k)[k]? = some (.int .u8 0) := by
  unfold fill
  rw [List.getElem?_append_right (by simp), List.length_replicate, Nat.sub_self, List.getElem?_replicate, if_pos (by omega)]

theorem fill_full (L j : Nat) (h : j < L) : (fill L L)[j]? = some (.int .u8 255) := by
  unfold fill
  simp [h]

theorem own_lt {w : World} {base e size g n cap : Nat} {xs : List Value} (h : w.ownsRow base e size (.slice (some ⟨g, 0, none⟩) n cap) n xs) : g < w.heap.size := by
  rcases h.2 with ⟨h', _⟩ | ⟨g', cap', cur, h', _, hg, _⟩
  · simp at h'
  · simp only [Value.slice.injEq, Option.some.injEq, Addr.mk.injEq, and_true, true_and] at h'
    obtain ⟨rfl, rfl⟩ := h'
    exact (Array.getElem?_eq_some_iff.1 hg).1

set_option maxHeartbeats 400000 in
theorem all_any (n : Nat) (w : World) (hn : n ≤ 70000) :
    Calls Try.prog 5 #[.int .i64 n] w fun e w' => e = .returned (sl w.heap.size n) ∧
      (∀ j, j < (n + 7) / 8 → w'.cell? ⟨w.heap.size, j, none⟩ = some (.int .u8 (pb n j))) ∧ Below w.heap.size w w' ∧ w.heap.size < w'.heap.size := by
  go_enter Try.func5, Try.ntmps5
  go_wp2_with fail
  refine (new_any n _ hn).mono ?_
  rintro e w0 ⟨rfl, hown, hgrow⟩
  unfold sl at hown ⊢
  have hb0 : Below w.heap.size w w0 := (Below.refl _ _).grown hgrow (Nat.le_refl _) (by simp)
  clear hgrow
  go_wp2
  go_loopw [10] (fun i wr => ∃ k : Nat, k ≤ (n + 7) / 8 ∧ i = .int .i64 k ∧ wr.ownsRow w.heap.size 5 1 (.slice (some ⟨w.heap.size, 0, none⟩) ((n + 7) / 8) ((n + 7) / 8)) ((n + 7) / 8) (fill ((n + 7) / 8) k) ∧ Below w.heap.size w wr) (fun i _ => (n + 7) / 8 - (intOf i).toNat)
  case atStart => exact ⟨0, Nat.zero_le _, rfl, hown, hb0⟩
  case round =>
    obtain ⟨k, hk, rfl, hown1, hb1⟩ := hrel
    by_cases hlt : k < (n + 7) / 8
    · have hf := hown1.frozenAt k
      have hc := (hown1.cellAt k (by omega)).trans (fill_next _ _ hlt)
      have hs := hown1.stored k (.int .u8 255)
      rw [fill_set _ _ hlt] at hs
      have HS : Hid _ := hs
      clear hs
      go_wp2
      go_roundw
      case rel => exact ⟨k + 1, by omega, by go_num, HS.out.1, hb1.grown HS.out.2 (by have := hb1.size; omega) (by simp)⟩
      case measure => simp [intOf]; omega
    · obtain rfl : k = (n + 7) / 8 := by omega
      by_cases hsp : (n : Int) < ((n : Int) + 7) / 8 * 8
      · have hc := (hown1.cellAt ((n + 7) / 8 - 1) (by omega)).trans (fill_full _ _ (by omega))
        have hf := hown1.frozenAt ((n + 7) / 8 - 1)
        have hs := hown1.stored ((n + 7) / 8 - 1) (.int .u8 (255 * 2 ^ ((n + 7) / 8 * 8 - n) % 256))
        have HS : Hid _ := hs
        clear hs
        go_wp2
        go_ret
        refine ⟨rfl, fun j hj => ?_, hb1.grown HS.out.2 (by have := hb1.size; omega) (by simp), own_lt HS.out.1⟩
        rw [HS.out.1.cellAt j (by omega)]
        by_cases hj2 : j = (n + 7) / 8 - 1
        · subst hj2
          rw [pb_last n (by omega), List.getElem?_set_self (by rw [hown1.1]; omega)]
        · rw [List.getElem?_set_ne (by omega), fill_full _ _ hj, pb_full n j (by omega)]
      · go_wp2
        go_ret
        refine ⟨rfl, fun j hj => ?_, hb1, own_lt hown1⟩
        rw [hown1.cellAt j (by omega), fill_full _ _ hj, pb_full n j (by omega)]

end Go.Proofs.Qxb6630222a.Walks

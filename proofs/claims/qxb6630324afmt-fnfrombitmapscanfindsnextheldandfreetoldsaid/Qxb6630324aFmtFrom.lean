import Derived.Test.Qxb6630324aFmtChecked
import Derived.Test.Qxb6630324aFmtShelf
import Derived.WalkKit
import Derived.ProofKit
import Derived.WalkSpells
import Derived.Laws.OwnMore
import Derived.Deep.AppendLies
import Derived.Outline
namespace Go.Proofs.Qxb6630324aFmt.Walks
open Go.RowKit

theorem hide {p : Prop} (h : p) : Hid p := h

/-- the words z lo .. z (lo + m - 1) as cells -/
def ws (z : Nat → Nat) (lo m : Nat) : List Value := (List.range m).map fun i => .int .u64 (z (lo + i) : Int)
theorem ws_length (z : Nat → Nat) (lo m : Nat) : (ws z lo m).length = m := by simp [ws]
theorem ws_get (z : Nat → Nat) (lo m i : Nat) (h : i < m) : (ws z lo m)[i]? = some (.int .u64 (z (lo + i) : Int)) := by simp [ws, h]
theorem ws_one (z : Nat → Nat) (lo m : Nat) : ∀ v ∈ ws z lo m, v.oneCell' = true := by
  intro v hv; simp only [ws, List.mem_map] at hv; obtain ⟨j, _, rfl⟩ := hv; rfl

/-- what FromBitmap of the words z 0 .. z (n - 1) hands back -/
structure SetOk (z : Nat → Nat) (n lo m : Nat) (v : Value) (B : Nat) (w : World) : Prop where
  own : w.ownsRow B 24 1 v m (ws z lo m)
  fit : lo + m ≤ n
  out : ∀ k, k < n → ¬ (lo ≤ k ∧ k < lo + m) → z k = 0
  ends : 0 < m → z lo ≠ 0 ∧ z (lo + m - 1) ≠ 0
  empty : m = 0 → lo = 0

theorem info24 : (Tryf.prog.info? 24).map (fun i => (i.zero, i.size, i.bytes)) = some (some (.int .u64 0), 1, 8) := by kernel_rfl
theorem size24 : ∀ w, (Go.sizeOf 24).run Tryf.prog w = .ok 1 w := fun w => by kernel_rfl

theorem own_set {w : World} {base e sz n : Nat} {v : Value} {xs : List Value} (h : w.ownsRow base e sz v n xs) (b o : Nat) (u : Value) (hb : b < base) : (w.setCell ⟨b, o, .none⟩ u).ownsRow base e sz v n xs := by
  rcases h with ⟨hl, h | ⟨g, cap, cur, hv, hbg, hg, hn, hm, hs, ht⟩⟩
  · exact ⟨hl, .inl h⟩
  · exact ⟨hl, .inr ⟨g, cap, cur, hv, hbg, by rw [heap_setCell_other _ _ _ _ (by show g ≠ b; omega)]; exact hg, hn, hm, hs, ht⟩⟩
theorem own_base {w : World} {base base' e sz n : Nat} {v : Value} {xs : List Value} (h : w.ownsRow base e sz v n xs) (hb : base' ≤ base) : w.ownsRow base' e sz v n xs := by
  rcases h with ⟨hl, h | ⟨g, cap, cur, hv, hbg, hg, hn, hm, hs, ht⟩⟩
  · exact ⟨hl, .inl h⟩
  · exact ⟨hl, .inr ⟨g, cap, cur, hv, by omega, hg, hn, hm, hs, ht⟩⟩

/-- the box of the result, behind Clone -/
theorem box_kept (w w2 : World) (hb : Below (w.alloc (.cells #[.int .i64 0, .slice none 0 0] 26)).heap.size (w.alloc (.cells #[.int .i64 0, .slice none 0 0] 26)) w2) :
    w2.cell? ⟨w.heap.size, 0, none⟩ = some (.int .i64 0) ∧ w2.cell? ⟨w.heap.size, 1, none⟩ = some (.slice none 0 0) ∧ w2.frozen? ⟨w.heap.size, 0, none⟩ = false ∧ w2.frozen? ⟨w.heap.size, 1, none⟩ = false ∧ Below w.heap.size w w2 ∧ w.heap.size < w2.heap.size := by
  have hnew := heap_alloc_new w (.cells #[.int .i64 0, .slice none 0 0] 26)
  have hlt : w.heap.size < (w.alloc (.cells #[.int .i64 0, .slice none 0 0] 26)).heap.size := by simp
  refine ⟨?_, ?_, ?_, ?_, ((Below.refl _ _).alloc (Nat.le_refl _) _).trans (hb.mono (Nat.le_of_lt hlt)), Nat.lt_of_lt_of_le hlt hb.size⟩
  · rw [hb.cell (by exact hlt), cell_of_row _ _ _ _ _ _ hnew]; rfl
  · rw [hb.cell (by exact hlt), cell_of_row _ _ _ _ _ _ hnew]; rfl
  · rw [hb.frozen (by exact hlt), frozen_of_row _ _ _ _ _ hnew]
  · rw [hb.frozen (by exact hlt), frozen_of_row _ _ _ _ _ hnew]

set_option maxHeartbeats 1000000 in
set_option maxRecDepth 20000 in
theorem from_any (z : Nat → Nat) (g n cap : Nat) (w : World) (_hn : n ≤ 65536) (hcap : n ≤ cap) (hcap2 : cap ≤ 9223372036854775807) (hz : ∀ j, z j < 18446744073709551616) (hbig : ∀ j, 1024 ≤ j → j < n → z j = 0) (hg : g < w.heap.size)
    (hc : ∀ j, j < n → w.cell? ⟨g, j, none⟩ = some (.int .u64 (z j : Int))) :
    Calls Tryf.prog 6 #[.slice (some ⟨g, 0, none⟩) n cap] w fun e w' => ∃ lo m v, e = .returned (.agg #[.int .i64 (lo : Nat), v]) ∧ SetOk z n lo m v w.heap.size w' ∧ Below w.heap.size w w' := by
  obtain ⟨i0, hi, hz0, hz1, hz2⟩ := info_parts info24
  have HC := hide hc
  have HBIG := hide hbig
  clear hc hbig
  go_enter Tryf.func6, Tryf.ntmps6
  go_wp2
  go_loop [3] (fun h => ∃ k : Nat, k ≤ n ∧ h = .int .i64 k ∧ ∀ j, k ≤ j → j < n → z j = 0) (fun h => (intOf h).toNat)
  case atStart => exact ⟨n, Nat.le_refl _, rfl, fun j h1 h2 => by omega⟩
  case round =>
    obtain ⟨k, hk, rfl, hzero⟩ := hrel
    have HZ := hide hzero
    clear hzero
    by_cases hk0 : 0 < k
    · have hc := HC.out (k - 1) (by omega)
      have hc2 : (w.alloc (.cells #[.int .i64 0, .slice none 0 0] 26)).cell? ⟨g, k - 1, none⟩ = some (.int .u64 (z (k - 1) : Int)) := by rw [Below.cell ((Below.refl w.heap.size w).alloc (Nat.le_refl _) _) (by exact hg)]; exact hc
      have hk1 : (0 : Int) < (k : Int) := by omega
      by_cases hzk : z (k - 1) = 0
      · have he : (((z (k - 1) : Nat) : Int) == 0) = true := by rw [hzk]; rfl
        have HZK := hide hzk
        clear hzk hc
        go_wp2
        go_round
        case rel => exact ⟨k - 1, by omega, by go_num, fun j h1 h2 => by by_cases h : j = k - 1; · rw [h]; exact HZK.out
                                                                         · exact HZ.out j (by omega) h2⟩
        case measure => simp [intOf]; omega
      · have he : (((z (k - 1) : Nat) : Int) == 0) = false := beq_eq_false_iff_ne.2 (by omega)
        have hk1024 : k ≤ 1024 := by
          by_cases h : 1024 ≤ k - 1
          · exact absurd (HBIG.out (k - 1) h (by omega)) hzk
          · omega
        have HZK := hide hzk
        clear hzk hc
        go_wp2_with fail
        refine (Tryf.bits_LeadingZeros64 _ _ (by omega) (by have := hz (k - 1); omega)).mono ?_
        have hbl := Lib.bitLen_le (z (k - 1)) 64 (Nat.le_refl _) (hz (k - 1))
        rw [Int.toNat_natCast]
        generalize Lib.bitLen (z (k - 1)) = bl at *
        rintro e w' ⟨rfl, rfl⟩
        clear hc2
        go_wp2
        go_loop [5] (fun h => ∃ i : Nat, i < k ∧ h = .int .i64 i ∧ ∀ j, j < i → z j = 0) (fun h => k - (intOf h).toNat)
        case atStart => exact ⟨0, hk0, rfl, fun j hj => absurd hj (Nat.not_lt_zero _)⟩
        case round =>
          obtain ⟨i, hi', rfl, hlow⟩ := hrel
          have HLOW := hide hlow
          clear hlow
          have hci : (w.alloc (.cells #[.int .i64 0, .slice none 0 0] 26)).cell? ⟨g, i, none⟩ = some (.int .u64 (z i : Int)) := by rw [Below.cell ((Below.refl w.heap.size w).alloc (Nat.le_refl _) _) (by exact hg)]; exact HC.out i (by omega)
          have hin : (i : Int) < (n : Int) := by omega
          by_cases hzi : z i = 0
          · have he2 : (((z i : Nat) : Int) == 0) = true := by rw [hzi]; rfl
            have hik : i ≠ k - 1 := fun h => HZK.out (by rw [← h]; exact hzi)
            have HZI := hide hzi
            clear hzi
            go_wp2
            go_round
            case rel => exact ⟨i + 1, by omega, by go_num, fun j hj => by by_cases h : j = i; · rw [h]; exact HZI.out
                                                                          · exact HLOW.out j (by omega)⟩
            case measure => simp [intOf]; omega
          · have he2 : (((z i : Nat) : Int) == 0) = false := beq_eq_false_iff_ne.2 (by omega)
            have HZI := hide hzi
            clear hzi
            go_wp2_with fail
            have hnews : ∀ j u, (ws z i (k - i))[j]? = some u → (w.alloc (.cells #[.int .i64 0, .slice none 0 0] 26)).cell? ⟨g, i + j, none⟩ = some u := by
              intro j u hj
              have hjl : j < k - i := by have := (List.getElem?_eq_some_iff.1 hj).1; rw [ws_length] at this; exact this
              rw [ws_get z i (k - i) j hjl] at hj
              rw [Below.cell ((Below.refl w.heap.size w).alloc (Nat.le_refl _) _) (by exact hg), HC.out (i + j) (by omega)]
              exact hj
            refine (Tryf.slices_Clone i0 (.int .u64 0) 1 8 hi hz0 hz1 hz2 rfl (by decide) size24 g i (k - i) (cap - i) (ws z i (k - i)) _ (by rw [ws_length, Nat.mul_one]) (by unfold maxLen; omega) (by omega) hnews (ws_one z i (k - i))).mono ?_
            rintro e w2 ⟨v', rfl, hown, hne, hb⟩
            obtain ⟨g2, cap2, rfl, hbg, hlt2⟩ := hown.form (by omega)
            obtain ⟨c1, c2, f1, f2, hbl2, hsz2⟩ := box_kept w w2 hb
            have HOWN := hide (own_base hown (show w.heap.size + 1 ≤ _ by simp))
            have HBL := hide hbl2
            clear hown hne hb hnews hbl2 hbg hlt2 hci
            go_wp2
            refine bodyPost_ret (v := .agg #[.int .i64 (i : Nat), .slice (some ⟨g2, 0, none⟩) (k - i) cap2]) (by simp [results, Tryf.results6, go_sem, c1, c2]) rfl ⟨i, k - i, _, rfl, ?_, ?_⟩
            · refine ⟨own_base (own_set (own_set HOWN.out _ _ _ (by omega)) _ _ _ (by omega)) (by omega), by omega, ?_, fun _ => ⟨HZI.out, by rw [show i + (k - i) - 1 = k - 1 by omega]; exact HZK.out⟩, fun h => by omega⟩
              intro j hj hnot
              by_cases h : j < i
              · exact HLOW.out j h
              · exact HZ.out j (by omega) hj
            · exact (HBL.out.setCell (by exact Nat.le_refl _) _).setCell (by exact Nat.le_refl _) _
    · obtain rfl : k = 0 := by omega
      go_wp2
      refine bodyPost_ret (v := .agg #[.int .i64 (0 : Nat), .slice none 0 0]) (by simp [results, Tryf.results6, go_sem]) rfl ⟨0, 0, _, rfl, ?_, ?_⟩
      · exact ⟨World.ownsRow_nil _ _ _ _, by omega, fun j hj _ => HZ.out j (Nat.zero_le _) hj, fun h => by omega, fun _ => rfl⟩
      · exact (Below.refl _ _).alloc (Nat.le_refl _) _

end Go.Proofs.Qxb6630324aFmt.Walks

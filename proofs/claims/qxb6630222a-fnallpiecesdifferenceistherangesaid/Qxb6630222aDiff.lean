import Derived.Test.Qxb6630222aWalks
import Derived.Test.Qxb6630222aBits
namespace Go.Proofs.Qxb6630222a.Walks
open Go.RowKit Go.Proofs.Qxb6630222a.Plain

/-- how many pieces of m..n-1 lie below p -/
def cnt (m n p : Nat) : Nat := min p n - m

theorem cnt_in (m n p : Nat) (h1 : m ≤ p) (h2 : p < n) : cnt m n (p + 1) = cnt m n p + 1 := by unfold cnt; omega
theorem cnt_out (m n p : Nat) (h : ¬ (m ≤ p ∧ p < n)) : cnt m n (p + 1) = cnt m n p := by unfold cnt; omega

set_option maxHeartbeats 1000000 in
theorem diff_any (m n : Nat) (w : World) (hmn : m ≤ n) (hn : n ≤ 65536) :
    Calls Try.prog 4 #[.int .i64 m, .int .i64 n] w fun e w' => e = .returned (.bool true) ∧ Below w.heap.size w w' := by
  go_enter Try.func4, Try.ntmps4
  go_wp2_with fail
  refine (all_any m _ (by omega)).mono ?_
  rintro e w1 ⟨rfl, ca, ba, za⟩
  unfold sl
  go_wp2_with fail
  refine (all_any n _ (by omega)).mono ?_
  rintro e w2 ⟨rfl, cb, bb, zb⟩
  unfold sl
  have ca2 : ∀ j, j < (m + 7) / 8 → w2.cell? ⟨w.heap.size, j, none⟩ = some (.int .u8 (pb m j)) := fun j hj => (bb.cell (p := ⟨w.heap.size, j, none⟩) za).trans (ca j hj)
  have hb : Below w.heap.size w w2 := ba.trans (bb.mono (by omega))
  clear ca ba za bb zb
  generalize w1.heap.size = B1 at *
  have HCA : Hid _ := ca2
  have HCB : Hid _ := cb
  have HB : Hid _ := hb
  clear ca2 cb hb
  go_wp2
  go_loop [7, 8] (fun c i => ∃ k : Nat, k ≤ (n + 7) / 8 ∧ i = .int .i64 k ∧ c = .int .i64 (cnt m n (8 * k))) (fun _ i => (n + 7) / 8 - (intOf i).toNat)
  case atStart => exact ⟨0, Nat.zero_le _, rfl, by simp [cnt]⟩
  case round =>
    obtain ⟨k, hk, rfl, rfl⟩ := hrel
    by_cases hlt : k < (n + 7) / 8
    · have cb := HCB.out k hlt
      by_cases hla : k < (m + 7) / 8
      · have ca := HCA.out k hla
        have h0 : (bits .andNot .u8 (pb m k) (pb n k) != 0) = false := by rw [sub_zero m n k hmn]; rfl
        go_wp2
        have hbit := fun i hi => diff_bit m n k i hi hmn
        have HBIT : Hid _ := hbit
        clear hbit
        go_loop [7, 11] (fun c i => ∃ t : Nat, t ≤ 8 ∧ i = .int .i64 t ∧ c = .int .i64 (cnt m n (8 * k + t))) (fun _ i => 8 - (intOf i).toNat)
        case atStart => exact ⟨0, by omega, rfl, rfl⟩
        case round =>
          obtain ⟨t, ht, rfl, rfl⟩ := hrel
          have hcb : cnt m n (8 * k + t) ≤ 65536 := by unfold cnt; omega
          by_cases ht8 : t < 8
          · by_cases hin : m ≤ 8 * k + t ∧ 8 * k + t < n
            · have hb := HBIT.out t ht8
              rw [decide_eq_true hin] at hb
              obtain ⟨hin1, hin2⟩ := hin
              go_wp2
              go_round
              case rel => exact ⟨t + 1, by omega, by go_num, by rw [show 8 * k + (t + 1) = 8 * k + t + 1 by omega, cnt_in m n _ hin1 hin2]; go_num⟩
              case measure => simp [intOf]; omega
            · have hb := HBIT.out t ht8
              rw [decide_eq_false hin] at hb
              go_wp2
              go_round
              case rel => exact ⟨t + 1, by omega, by go_num, by rw [show 8 * k + (t + 1) = 8 * k + t + 1 by omega, cnt_out m n _ hin]⟩
              case measure => simp [intOf]; omega
          · obtain rfl : t = 8 := by omega
            go_wp2
            go_round
            case rel => exact ⟨k + 1, by omega, by go_num, by rw [show 8 * (k + 1) = 8 * k + 8 by omega]⟩
            case measure => simp [intOf]; omega
      · have hz := pb_none m k (by omega)
        have h0 : (bits .andNot .u8 0 (pb n k) != 0) = false := by have h := sub_zero m n k hmn; rw [hz] at h; rw [h]; rfl
        have hbit := fun i hi => diff_bit m n k i hi hmn
        rw [hz] at hbit
        clear hz
        have HBIT : Hid _ := hbit
        clear hbit
        go_wp2
        go_loop [7, 11] (fun c i => ∃ t : Nat, t ≤ 8 ∧ i = .int .i64 t ∧ c = .int .i64 (cnt m n (8 * k + t))) (fun _ i => 8 - (intOf i).toNat)
        case atStart => exact ⟨0, by omega, rfl, rfl⟩
        case round =>
          obtain ⟨t, ht, rfl, rfl⟩ := hrel
          have hcb : cnt m n (8 * k + t) ≤ 65536 := by unfold cnt; omega
          by_cases ht8 : t < 8
          · by_cases hin : m ≤ 8 * k + t ∧ 8 * k + t < n
            · have hb := HBIT.out t ht8
              rw [decide_eq_true hin] at hb
              obtain ⟨hin1, hin2⟩ := hin
              go_wp2
              go_round
              case rel => exact ⟨t + 1, by omega, by go_num, by rw [show 8 * k + (t + 1) = 8 * k + t + 1 by omega, cnt_in m n _ hin1 hin2]; go_num⟩
              case measure => simp [intOf]; omega
            · have hb := HBIT.out t ht8
              rw [decide_eq_false hin] at hb
              go_wp2
              go_round
              case rel => exact ⟨t + 1, by omega, by go_num, by rw [show 8 * k + (t + 1) = 8 * k + t + 1 by omega, cnt_out m n _ hin]⟩
              case measure => simp [intOf]; omega
          · obtain rfl : t = 8 := by omega
            go_wp2
            go_round
            case rel => exact ⟨k + 1, by omega, by go_num, by rw [show 8 * (k + 1) = 8 * k + 8 by omega]⟩
            case measure => simp [intOf]; omega
    · obtain rfl : k = (n + 7) / 8 := by omega
      have hf : cnt m n (8 * ((n + 7) / 8)) = n - m := by unfold cnt; omega
      rw [hf]
      clear hf
      have he : (((n - m : Nat) : Int) == (n : Int) - (m : Int)) = true := beq_iff_eq.2 (by omega)
      go_wp2
      go_ret
      exact ⟨rfl, HB.out⟩

end Go.Proofs.Qxb6630222a.Walks

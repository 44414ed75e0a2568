import Derived.Test.Qxb6630222aWalks
import Derived.Test.Qxb6630222aBits
namespace Go.Proofs.Qxb6630222a.Plain

/-- the one bits among the low f of x -/
def popF : Nat → Nat → Nat
  | 0, _ => 0
  | f + 1, x => x % 2 + popF f (x / 2)

theorem and_tab : ∀ y : Fin 256, bits .and .u8 (y.val : Int) 1 = (y.val : Int) % 2 := by decide +kernel

theorem popF_zero (f : Nat) : popF f 0 = 0 := by
  induction f with
  | zero => rfl
  | succ f ih => rw [popF, ih]

theorem pop_tab : ∀ s : Fin 9, popF 8 ((256 - 2 ^ s.val : Int)).toNat = 8 - s.val := by decide +kernel
theorem pop_pb (n j : Nat) : popF 8 (pb n j).toNat = 8 - sh n j := by
  unfold pb; exact pop_tab ⟨sh n j, sh_lt n j⟩

theorem range_tab : ∀ s : Fin 9, (0 : Int) ≤ 256 - 2 ^ s.val ∧ (256 - 2 ^ s.val : Int) ≤ 255 := by decide +kernel
theorem pb_range (n j : Nat) : 0 ≤ pb n j ∧ pb n j ≤ 255 := by
  unfold pb; exact range_tab ⟨sh n j, sh_lt n j⟩

theorem or_tab : ∀ r : Fin 8, bits .or .u8 (256 - 2 ^ (8 - r.val)) (128 / 2 ^ r.val) = 256 - 2 ^ (7 - r.val) := by decide +kernel
theorem or_zero_tab : ∀ s : Fin 9, bits .or .u8 (256 - 2 ^ s.val) 0 = 256 - 2 ^ s.val := by decide +kernel

theorem or_at (n j : Nat) (h : j = n / 8) : bits .or .u8 (pb n j) (128 / 2 ^ (n % 8)) = pb (n + 1) j := by
  have e1 : sh n j = 8 - n % 8 := by unfold sh; omega
  have e2 : sh (n + 1) j = 7 - n % 8 := by unfold sh; omega
  unfold pb
  rw [e1, e2]
  exact or_tab ⟨n % 8, by omega⟩

theorem or_off (n j : Nat) (h : j ≠ n / 8) : bits .or .u8 (pb n j) 0 = pb (n + 1) j := by
  have e1 : sh (n + 1) j = sh n j := by unfold sh; omega
  unfold pb
  rw [e1]
  exact or_zero_tab ⟨sh n j, sh_lt n j⟩

end Go.Proofs.Qxb6630222a.Plain
namespace Go.Proofs.Qxb6630222a.Walks
open Go.RowKit Go.Proofs.Qxb6630222a.Plain

set_option maxHeartbeats 400000 in
theorem pop_any (x : Nat) (w : World) (hx : x ≤ 255) :
    Calls Try.prog 6 #[.int .u8 x] w fun e w' => e = .returned (.int .i64 (popF 8 x)) ∧ w' = w := by
  go_enter Try.func6, Try.ntmps6
  go_wp2
  go_loop [0, 3] (fun a b => ∃ f y c : Nat, f ≤ 8 ∧ y < 2 ^ f ∧ a = .int .u8 y ∧ b = .int .i64 c ∧ c + popF f y = popF 8 x ∧ c + f ≤ 8) (fun a _ => (intOf a).toNat)
  case atStart => exact ⟨8, x, 0, by omega, by omega, rfl, rfl, by omega, by omega⟩
  case round =>
    obtain ⟨f, y, c, hf, hy, rfl, rfl, hp, hc⟩ := hrel
    have HP : Hid _ := hp
    clear hp
    have hy8 : y < 256 := Nat.lt_of_lt_of_le hy (Nat.pow_le_pow_right (n := 2) (by omega) hf)
    by_cases h0 : y = 0
    · subst h0
      have hz : popF f 0 = 0 := popF_zero f
      go_wp2
      go_ret
      exact ⟨by rw [← HP.out, hz]; rfl, rfl⟩
    · have h0' : ((y : Int) != 0) = true := by rw [bne_iff_ne]; omega
      have ha := and_tab ⟨y, hy8⟩
      simp only at ha
      obtain ⟨g, rfl⟩ : ∃ g, f = g + 1 := ⟨f - 1, by have : f ≠ 0 := by { rintro rfl; omega }; omega⟩
      have hy2 : y / 2 < 2 ^ g := by rw [Nat.pow_succ] at hy; omega
      clear hy
      go_wp2
      go_round
      case rel => exact ⟨g, y / 2, c + y % 2, by omega, hy2, by go_num, by go_num, by rw [← HP.out, popF]; omega, by omega⟩
      case measure => simp [intOf]; omega

theorem pop_any' (x : Int) (w : World) (h0 : 0 ≤ x) (hx : x ≤ 255) :
    Calls Try.prog 6 #[.int .u8 x] w fun e w' => e = .returned (.int .i64 (popF 8 x.toNat)) ∧ w' = w := by
  obtain ⟨n, rfl⟩ := Int.eq_ofNat_of_zero_le h0
  rw [Int.toNat_natCast]
  exact pop_any n w (by omega)

theorem all_any1 (n : Nat) (w : World) (hn : n + 1 ≤ 70000) :
    Calls Try.prog 5 #[.int .i64 ((n : Int) + 1)] w fun e w' => e = .returned (sl w.heap.size (n + 1)) ∧
      (∀ j, j < (n + 1 + 7) / 8 → w'.cell? ⟨w.heap.size, j, none⟩ = some (.int .u8 (pb (n + 1) j))) ∧ Below w.heap.size w w' ∧ w.heap.size < w'.heap.size :=
  all_any (n + 1) w hn

/-- the pieces of n below byte j -/
def low (n j : Nat) : Nat := min (8 * j) n

set_option maxHeartbeats 1000000 in
theorem grow_walk_a (n : Nat) (w : World) (hn : n ≤ 65536) (hm : n % 8 < 1) (ht : ((n : Int) % 8 == 0) = true) (hl : (((n : Int) + 1 + 7) / 8 != ((n : Int) + 7) / 8 + 1) = false) :
    Calls Try.prog 3 #[.int .i64 n] w fun e w' => e = .returned (.bool true) ∧ Below w.heap.size w w' := by
  go_enter Try.func3, Try.ntmps3
  go_wp2_with fail
  refine (all_any n _ (by omega)).mono ?_
  rintro e w1 ⟨rfl, ca, ba, za⟩
  unfold sl
  go_wp2_with fail
  refine (all_any1 n _ (by omega)).mono ?_
  rintro e w2 ⟨rfl, cb, bb, zb⟩
  unfold sl
  have ca2 : ∀ j, j < (n + 7) / 8 → w2.cell? ⟨w.heap.size, j, none⟩ = some (.int .u8 (pb n j)) := fun j hj => (bb.cell (p := ⟨w.heap.size, j, none⟩) za).trans (ca j hj)
  have hb : Below w.heap.size w w2 := ba.trans (bb.mono (by omega))
  clear ca ba za bb zb
  generalize w1.heap.size = B1 at *
  have HCA : Hid _ := ca2
  have HCB : Hid _ := cb
  have HB : Hid _ := hb
  clear ca2 cb hb
  go_wp2
  go_loop [6, 7] (fun c i => ∃ k : Nat, k ≤ (n + 1 + 7) / 8 ∧ i = .int .i64 k ∧ c = .int .i64 (low (n + 1) k)) (fun _ i => (n + 1 + 7) / 8 - (intOf i).toNat)
  case atStart => exact ⟨0, Nat.zero_le _, rfl, by simp [low]⟩
  case round =>
    obtain ⟨k, hk, rfl, rfl⟩ := hrel
    have hlo : low (n + 1) k ≤ 65537 := by unfold low; omega
    have hpr := pb_range (n + 1) k
    have HPO : Hid (popF 8 (pb (n + 1) k).toNat = 8 - sh (n + 1) k) := pop_pb (n + 1) k
    have HLO : Hid (k < (n + 1 + 7) / 8 → low (n + 1) (k + 1) = low (n + 1) k + popF 8 (pb (n + 1) k).toNat) := fun h => by rw [HPO.out]; unfold low sh; omega
    have hp8 : popF 8 (pb (n + 1) k).toNat ≤ 8 := by rw [HPO.out]; omega
    by_cases hlt : k < (n + 1 + 7) / 8
    · have cb := HCB.out k hlt
      by_cases hla : k < (n + 7) / 8
      · have ca := HCA.out k hla
        by_cases hn8 : k = n / 8
        · have hq : ((k : Int) == (n : Int) / 8) = true := beq_iff_eq.2 (by omega)
          have ho := or_at n k hn8
          have HN : Hid _ := hn8
          clear hn8
          go_wp2_with (go_at_call 6; refine (pop_any' _ _ (by omega) (by omega)).mono ?_; rintro e w' ⟨rfl, rfl⟩)
          go_round
          case rel => exact ⟨k + 1, by omega, by go_num, by rw [HLO.out hlt]; go_num⟩
          case measure => simp [intOf]; omega
        · have hq : ((k : Int) == (n : Int) / 8) = false := beq_eq_false_iff_ne.2 (by omega)
          have ho := or_off n k hn8
          go_wp2_with (go_at_call 6; refine (pop_any' _ _ (by omega) (by omega)).mono ?_; rintro e w' ⟨rfl, rfl⟩)
          go_round
          case rel => exact ⟨k + 1, by omega, by go_num, by rw [HLO.out hlt]; go_num⟩
          case measure => simp [intOf]; omega
      · have hq : ((k : Int) == (n : Int) / 8) = true := beq_iff_eq.2 (by omega)
        have ho := or_at n k (by omega)
        rw [pb_none n k (by omega)] at ho
        go_wp2_with (go_at_call 6; refine (pop_any' _ _ (by omega) (by omega)).mono ?_; rintro e w' ⟨rfl, rfl⟩)
        go_round
        case rel => exact ⟨k + 1, by omega, by go_num, by rw [HLO.out hlt]; go_num⟩
        case measure => simp [intOf]; omega
    · obtain rfl : k = (n + 1 + 7) / 8 := by omega
      have he : (((low (n + 1) ((n + 1 + 7) / 8) : Nat) : Int) == (n : Int) + 1) = true := beq_iff_eq.2 (by unfold low; omega)
      go_wp2
      go_ret
      exact ⟨rfl, HB.out⟩


set_option maxHeartbeats 1000000 in
theorem grow_walk_b (n : Nat) (w : World) (hn : n ≤ 65536) (hm : 1 ≤ n % 8) (ht : ((n : Int) % 8 == 0) = false) (hl : (((n : Int) + 1 + 7) / 8 != ((n : Int) + 7) / 8) = false) :
    Calls Try.prog 3 #[.int .i64 n] w fun e w' => e = .returned (.bool true) ∧ Below w.heap.size w w' := by
  go_enter Try.func3, Try.ntmps3
  go_wp2_with fail
  refine (all_any n _ (by omega)).mono ?_
  rintro e w1 ⟨rfl, ca, ba, za⟩
  unfold sl
  go_wp2_with fail
  refine (all_any1 n _ (by omega)).mono ?_
  rintro e w2 ⟨rfl, cb, bb, zb⟩
  unfold sl
  have ca2 : ∀ j, j < (n + 7) / 8 → w2.cell? ⟨w.heap.size, j, none⟩ = some (.int .u8 (pb n j)) := fun j hj => (bb.cell (p := ⟨w.heap.size, j, none⟩) za).trans (ca j hj)
  have hb : Below w.heap.size w w2 := ba.trans (bb.mono (by omega))
  clear ca ba za bb zb
  generalize w1.heap.size = B1 at *
  have HCA : Hid _ := ca2
  have HCB : Hid _ := cb
  have HB : Hid _ := hb
  clear ca2 cb hb
  go_wp2
  go_loop [6, 7] (fun c i => ∃ k : Nat, k ≤ (n + 1 + 7) / 8 ∧ i = .int .i64 k ∧ c = .int .i64 (low (n + 1) k)) (fun _ i => (n + 1 + 7) / 8 - (intOf i).toNat)
  case atStart => exact ⟨0, Nat.zero_le _, rfl, by simp [low]⟩
  case round =>
    obtain ⟨k, hk, rfl, rfl⟩ := hrel
    have hlo : low (n + 1) k ≤ 65537 := by unfold low; omega
    have hpr := pb_range (n + 1) k
    have HPO : Hid (popF 8 (pb (n + 1) k).toNat = 8 - sh (n + 1) k) := pop_pb (n + 1) k
    have HLO : Hid (k < (n + 1 + 7) / 8 → low (n + 1) (k + 1) = low (n + 1) k + popF 8 (pb (n + 1) k).toNat) := fun h => by rw [HPO.out]; unfold low sh; omega
    have hp8 : popF 8 (pb (n + 1) k).toNat ≤ 8 := by rw [HPO.out]; omega
    by_cases hlt : k < (n + 1 + 7) / 8
    · have cb := HCB.out k hlt
      by_cases hla : k < (n + 7) / 8
      · have ca := HCA.out k hla
        by_cases hn8 : k = n / 8
        · have hq : ((k : Int) == (n : Int) / 8) = true := beq_iff_eq.2 (by omega)
          have ho := or_at n k hn8
          have HN : Hid _ := hn8
          clear hn8
          go_wp2_with (go_at_call 6; refine (pop_any' _ _ (by omega) (by omega)).mono ?_; rintro e w' ⟨rfl, rfl⟩)
          go_round
          case rel => exact ⟨k + 1, by omega, by go_num, by rw [HLO.out hlt]; go_num⟩
          case measure => simp [intOf]; omega
        · have hq : ((k : Int) == (n : Int) / 8) = false := beq_eq_false_iff_ne.2 (by omega)
          have ho := or_off n k hn8
          go_wp2_with (go_at_call 6; refine (pop_any' _ _ (by omega) (by omega)).mono ?_; rintro e w' ⟨rfl, rfl⟩)
          go_round
          case rel => exact ⟨k + 1, by omega, by go_num, by rw [HLO.out hlt]; go_num⟩
          case measure => simp [intOf]; omega
      · omega
    · obtain rfl : k = (n + 1 + 7) / 8 := by omega
      have he : (((low (n + 1) ((n + 1 + 7) / 8) : Nat) : Int) == (n : Int) + 1) = true := beq_iff_eq.2 (by unfold low; omega)
      go_wp2
      go_ret
      exact ⟨rfl, HB.out⟩


set_option maxHeartbeats 1000000 in
theorem grow_any (n : Nat) (w : World) (hn : n ≤ 65536) :
    Calls Try.prog 3 #[.int .i64 n] w fun e w' => e = .returned (.bool true) ∧ Below w.heap.size w w' := by
  rcases (show n % 8 < 1 ∨ 1 ≤ n % 8 by omega) with hm | hm
  · have ht : ((n : Int) % 8 == 0) = true := beq_iff_eq.2 (by omega)
    have hl : (((n : Int) + 1 + 7) / 8 != ((n : Int) + 7) / 8 + 1) = false := by rw [bne_eq_false_iff_eq]; omega
    exact grow_walk_a n w hn hm ht hl
  · have ht : ((n : Int) % 8 == 0) = false := beq_eq_false_iff_ne.2 (by omega)
    have hl : (((n : Int) + 1 + 7) / 8 != ((n : Int) + 7) / 8) = false := by rw [bne_eq_false_iff_eq]; omega
    exact grow_walk_b n w hn hm ht hl

end Go.Proofs.Qxb6630222a.Walks

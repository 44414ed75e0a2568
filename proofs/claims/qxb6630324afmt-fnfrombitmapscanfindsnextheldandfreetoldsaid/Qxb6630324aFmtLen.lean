import Derived.Test.Qxb6630324aFmtPop
import Derived.Laws.Bits128
namespace Go.Proofs.Qxb6630324aFmt.Walks
open Go.RowKit

set_option maxHeartbeats 400000 in
theorem bytes5 (a : Option Addr) (n cap : Nat) (w : World) (hn : n ≤ 1048576) : Calls Tryf.prog 5 #[.slice a n cap] w fun e w' => e = .returned (.bool true) ∧ w' = w := by
  go_enter Tryf.func5, Tryf.ntmps5
  go_wp2
  go_ret
  exact ⟨rfl, rfl⟩
set_option maxHeartbeats 400000 in
theorem bytes5_big (a : Option Addr) (n cap : Nat) (w : World) (hn : ¬ n ≤ 1048576) (hn2 : n ≤ 9223372036854775807) : Calls Tryf.prog 5 #[.slice a n cap] w fun e w' => e = .returned (.bool false) ∧ w' = w := by
  go_enter Tryf.func5, Tryf.ntmps5
  go_wp2
  go_ret
  exact ⟨rfl, rfl⟩
set_option maxHeartbeats 400000 in
theorem bytes12 (a : Option Addr) (n cap : Nat) (w : World) (hn : n ≤ 1048576) : Calls Tryf.prog 12 #[.slice a n cap] w fun e w' => e = .returned (.bool true) ∧ w' = w := by
  go_enter Tryf.func12, Tryf.ntmps12
  go_wp2
  go_ret
  exact ⟨rfl, rfl⟩
set_option maxHeartbeats 400000 in
theorem bytes12_big (a : Option Addr) (n cap : Nat) (w : World) (hn : ¬ n ≤ 1048576) (hn2 : n ≤ 9223372036854775807) : Calls Tryf.prog 12 #[.slice a n cap] w fun e w' => e = .returned (.bool false) ∧ w' = w := by
  go_enter Tryf.func12, Tryf.ntmps12
  go_wp2
  go_ret
  exact ⟨rfl, rfl⟩

set_option maxHeartbeats 400000 in
theorem pop8_gen (pp : Nat → Nat) (p0 : pp 0 = 0) (ple : ∀ y, pp y ≤ 64) (pst : Hid (∀ y, y ≠ 0 → y < 18446744073709551616 → pp (y &&& (y - 1)) + 1 = pp y)) (x : Nat) (w : World) (hx : x < 18446744073709551616) : Calls Tryf.prog 8 #[.int .u64 (x : Int)] w fun e w' => e = .returned (.int .i64 (pp x : Nat)) ∧ w' = w := by
  have hlex := ple x
  generalize hP : pp x = P at *
  have HP := hide hP
  clear hP
  go_enter Tryf.func8, Tryf.ntmps8
  go_wp2
  go_loop [0, 3] (fun h n => ∃ y k : Nat, y < 18446744073709551616 ∧ k + pp y = P ∧ h = .int .u64 (y : Int) ∧ n = .int .i64 (k : Nat)) (fun h _ => pp (intOf h).toNat)
  case atStart => exact ⟨x, 0, hx, by have := HP.out; omega, rfl, rfl⟩
  case round =>
    obtain ⟨y, k, hy, hk, rfl, rfl⟩ := hrel
    by_cases h0 : y = 0
    · subst h0
      obtain rfl : k = P := by omega
      clear hk
      go_wp2
      go_ret
      exact ⟨rfl, rfl⟩
    · have he : (((y : Nat) : Int) == 0) = false := beq_eq_false_iff_ne.2 (by omega)
      have hlt : y &&& (y - 1) < 18446744073709551616 := Nat.lt_of_le_of_lt Nat.and_le_left hy
      have hand := bits_and_u64_nat y (y - 1) hy (by omega)
      rw [show ((y - 1 : Nat) : Int) = (y : Int) - 1 by omega] at hand
      have hstep := pst.out y h0 hy
      generalize hv : y &&& (y - 1) = v at *
      have hk64 : k ≤ 64 := by omega
      have H2 := hide hstep
      have HK := hide hk
      clear hstep hv hk
      go_wp2
      go_round
      case rel => exact ⟨v, k + 1, hlt, by have := H2.out; have := HK.out; omega, rfl, by go_num⟩
      case measure => have := H2.out; simp [intOf]; omega
theorem pop8_any (x : Nat) (w : World) (hx : x < 18446744073709551616) : Calls Tryf.prog 8 #[.int .u64 (x : Int)] w fun e w' => e = .returned (.int .i64 (popf 64 x : Nat)) ∧ w' = w :=
  pop8_gen (popf 64) (popf_zero 64) (popf_le 64) (hide fun y h0 hy => popf_step 64 y h0 (by exact hy)) x w hx

theorem m1_lt (x : Nat) : (x &&& 6148914691236517205) ≤ 6148914691236517205 := Nat.and_le_right
theorem m2_lt (x : Nat) : (x &&& 3689348814741910323) ≤ 3689348814741910323 := Nat.and_le_right
theorem w64 (n : Nat) (h : n < 18446744073709551616) : IntKind.u64.wrap (n : Int) = (n : Int) := by rw [IntKind.wrap_u64]; omega
theorem e1 (x : Nat) (hx : x < 18446744073709551616) : IntKind.u64.wrap (bits .and .u64 ((x : Int) / 2) 6148914691236517205 + bits .and .u64 (x : Int) 6148914691236517205) = ((s1 8 x : Nat) : Int) := by
  have a1 := bits_and_u64_nat (x / 2) 6148914691236517205 (by omega) (by decide)
  have a2 := bits_and_u64_nat x 6148914691236517205 hx (by decide)
  have b1 := m1_lt (x / 2)
  have b2 := m1_lt x
  rw [show ((x / 2 : Nat) : Int) = (x : Int) / 2 by omega] at a1
  rw [show ((x : Int) / 2) = (x : Int) / 2 from rfl, show (6148914691236517205 : Int) = ((6148914691236517205 : Nat) : Int) from rfl, a1, a2]
  unfold s1
  rw [msk55]
  generalize (x / 2 &&& 6148914691236517205) = p at *
  generalize (x &&& 6148914691236517205) = q at *
  rw [← Int.natCast_add, w64 _ (by omega)]
theorem e2 (x : Nat) (hx : x < 18446744073709551616) : IntKind.u64.wrap (bits .and .u64 ((x : Int) / 4) 3689348814741910323 + bits .and .u64 (x : Int) 3689348814741910323) = ((s2 8 x : Nat) : Int) := by
  have a1 := bits_and_u64_nat (x / 4) 3689348814741910323 (by omega) (by decide)
  have a2 := bits_and_u64_nat x 3689348814741910323 hx (by decide)
  have b1 := m2_lt (x / 4)
  have b2 := m2_lt x
  rw [show ((x / 4 : Nat) : Int) = (x : Int) / 4 by omega] at a1
  rw [show (3689348814741910323 : Int) = ((3689348814741910323 : Nat) : Int) from rfl, a1, a2]
  unfold s2
  rw [msk33]
  generalize (x / 4 &&& 3689348814741910323) = p at *
  generalize (x &&& 3689348814741910323) = q at *
  rw [← Int.natCast_add, w64 _ (by omega)]
theorem e3 (x : Nat) (hx : x ≤ 7378697629483820646) : bits .and .u64 (IntKind.u64.wrap ((x : Int) / 16 + (x : Int))) 1085102592571150095 = ((s3 8 x : Nat) : Int) := by
  have a1 := bits_and_u64_nat (x / 16 + x) 1085102592571150095 (by omega) (by decide)
  rw [show (x : Int) / 16 + (x : Int) = ((x / 16 + x : Nat) : Int) by omega, w64 _ (by omega), show (1085102592571150095 : Int) = ((1085102592571150095 : Nat) : Int) from rfl, a1]
  unfold s3
  rw [msk0f]
theorem s1_lt (x : Nat) : s1 8 x < 18446744073709551616 := by
  unfold s1; rw [msk55]; have := m1_lt (x / 2); have := m1_lt x; omega
theorem s2_lt (x : Nat) : s2 8 x ≤ 7378697629483820646 := by
  unfold s2; rw [msk33]; have := m2_lt (x / 4); have := m2_lt x; omega
theorem e4 (x c : Nat) (hx : x + x / c < 18446744073709551616) : IntKind.u64.wrap ((x : Int) + (x : Int) / (c : Int)) = ((x + x / c : Nat) : Int) := by
  rw [← Int.natCast_ediv, ← Int.natCast_add, w64 _ hx]

theorem e5 (x : Nat) (hx : x + x / 256 < 18446744073709551616) : IntKind.u64.wrap ((x : Int) + (x : Int) / 256) = ((x + x / 256 : Nat) : Int) := e4 x 256 hx
theorem e6 (x : Nat) (hx : x + x / 65536 < 18446744073709551616) : IntKind.u64.wrap ((x : Int) + (x : Int) / 65536) = ((x + x / 65536 : Nat) : Int) := e4 x 65536 hx
theorem e7 (x : Nat) (hx : x + x / 4294967296 < 18446744073709551616) : IntKind.u64.wrap ((x : Int) + (x : Int) / 4294967296) = ((x + x / 4294967296 : Nat) : Int) := e4 x 4294967296 hx

theorem e8 (d : Nat) : bits .and .i64 (wrap64 (d : Int)) 127 = ((d % 128 : Nat) : Int) := by
  rw [i64_and127]; simp only [wrap64]; omega

set_option maxHeartbeats 400000 in
theorem ones_any (x : Nat) (w : World) (hx : x < 18446744073709551616) : Calls Tryf.prog 18 #[.int .u64 (x : Int)] w fun e w' => e = .returned (.int .i64 (popf 64 x : Nat)) ∧ w' = w := by
  have H := hide (ones_eq x)
  have H3 := hide (s3_lt x)
  unfold ones at H
  generalize popf 64 x = P at *
  go_enter Tryf.func18, Tryf.ntmps18
  go_wp2
  go_ret
  refine ⟨congrArg (fun z => Ending.returned (Value.int .i64 z)) (?_ : (_ : Int) = _), rfl⟩
  rw [e1 x hx, e2 _ (s1_lt x), e3 _ (s2_lt _)]
  have h3 := H3.out
  have hh := H.out
  clear H H3
  generalize s3 8 (s2 8 (s1 8 x)) = a at *
  rw [e5 a (by omega), e6 _ (by omega), e7 _ (by omega)]
  generalize hd : a + a / 256 + (a + a / 256) / 65536 + (a + a / 256 + (a + a / 256) / 65536) / 4294967296 = d at *
  rw [e8 d, hh]


def sums (f : Nat → Nat) : Nat → Nat
  | 0 => 0
  | n + 1 => sums f n + f n
theorem sums_le (f : Nat → Nat) (c n : Nat) (h : ∀ j, f j ≤ c) : sums f n ≤ c * n := by
  induction n with
  | zero => exact Nat.le_refl _
  | succ n ih => have := h n; simp only [sums]; rw [Nat.mul_succ]; omega

set_option maxHeartbeats 400000 in
theorem len_any (z : Nat → Nat) (lo m cap : Nat) (a : Option Addr) (w : World) (hl : lo + m ≤ 70000) (hz : ∀ j, z j < 18446744073709551616) (hs : SetAt z lo m a w.heap.size w) :
    Calls Tryf.prog 9 #[.agg #[.int .i64 (lo : Nat), .slice a m cap]] w fun e w' => e = .returned (.int .i64 (sums (fun j => popf 64 (z (lo + j))) m : Nat)) ∧ Below w.heap.size w w' := by
  have HS := hide ((hs.next (bel_alloc w (.cells #[.int .i64 (lo : Nat), .slice a m cap] 26)) (Nat.le_refl _)))
  clear hs
  have HO := hide (fun j w => ones_any (z (lo + j)) w (hz _))
  have HF := hide (fun j => show (fun j => popf 64 (z (lo + j))) j ≤ 64 from popf_le 64 (z (lo + j)))
  change Hid (∀ j w, Calls Tryf.prog 18 #[.int .u64 (z (lo + j) : Int)] w fun e w' => e = .returned (.int .i64 ((fun j => popf 64 (z (lo + j))) j : Nat)) ∧ w' = w) at HO
  generalize (fun j => popf 64 (z (lo + j))) = f at *
  have HB := hide (fun n => sums_le f 64 n HF.out)
  go_enter Tryf.func9, Tryf.ntmps9
  go_wp2
  go_loop [3, 9] (fun s k => ∃ i : Nat, i ≤ m ∧ s = .int .i64 (sums f i : Nat) ∧ k = .int .i64 (i : Nat)) (fun _ k => m - (intOf k).toNat)
  case atStart => exact ⟨0, Nat.zero_le _, rfl, rfl⟩
  case round =>
    obtain ⟨i, hi, rfl, rfl⟩ := hrel
    have hsum := HB.out i
    have hsucc : sums f (i + 1) = sums f i + f i := rfl
    have hfi := HF.out i
    generalize hS : sums f i = S at *
    have HS2 := hide hS
    clear hS
    by_cases h : i < m
    · obtain ⟨g, rfl, hg, hc⟩ := HS.out.at_ i h
      have h1 : (i : Int) < (m : Int) := by omega
      have HX := hide hsucc
      clear hsucc
      go_wp2_with fail
      refine (HO.out i _).mono ?_
      rintro e w1 ⟨rfl, rfl⟩
      generalize f i = F at *
      go_wp2
      go_round
      case rel => exact ⟨i + 1, h, by rw [HX.out]; go_num, by go_num⟩
      case measure => simp [intOf]; omega
    · obtain rfl : i = m := by omega
      clear hsucc
      go_wp2
      go_ret
      exact ⟨by rw [HS2.out]; rfl, bel_alloc w _⟩

end Go.Proofs.Qxb6630324aFmt.Walks

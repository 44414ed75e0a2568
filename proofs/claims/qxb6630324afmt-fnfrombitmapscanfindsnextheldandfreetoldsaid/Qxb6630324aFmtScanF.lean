import Derived.Test.Qxb6630324aFmtScan
namespace Go.Proofs.Qxb6630324aFmt.Walks
open Go.RowKit

attribute [local irreducible] bitW wd Lib.ctz Lib.deBruijn64tab

theorem not64 (X : Nat) (hX : X < 18446744073709551616) : 18446744073709551615 ^^^ X = 18446744073709551615 - X := by
  apply Nat.eq_of_testBit_eq
  intro t
  have e1 : (18446744073709551615 : Nat) = 2 ^ 64 - 1 := by decide
  rw [Nat.testBit_xor]
  by_cases ht : t < 64
  · rw [not_bit X t hX ht, e1, Nat.testBit_two_pow_sub_one, decide_eq_true ht, Bool.true_xor]
  · have hpw : 2 ^ 64 ≤ 2 ^ t := Nat.pow_le_pow_right (by omega) (by omega)
    have h1 : X.testBit t = false := Nat.testBit_lt_two_pow (Nat.lt_of_lt_of_le hX hpw)
    have h2 : (18446744073709551615 - X).testBit t = false := Nat.testBit_lt_two_pow (Nat.lt_of_lt_of_le (show 18446744073709551615 - X < 2 ^ 64 by omega) hpw)
    rw [h1, h2, e1, Nat.testBit_two_pow_sub_one, decide_eq_false ht]; rfl
theorem u64_not (X : Nat) (hX : X < 18446744073709551616) : bits .xor .u64 (if IntKind.u64.signed = true then -1 else IntKind.u64.max) (X : Int) = ((18446744073709551615 - X : Nat) : Int) := by
  have e : (if IntKind.u64.signed = true then (-1 : Int) else IntKind.u64.max) = ((18446744073709551615 : Nat) : Int) := by decide
  rw [e, bits_xor_u64_nat _ X (by decide) hX, not64 X hX]

set_option maxHeartbeats 1000000 in
set_option maxRecDepth 20000 in
theorem scan_false (z : Nat → Nat) (lo m cap id : Nat) (a : Option Addr) (w : World) (hid : id ≤ 65536) (hl : lo + m ≤ 65536) (hz : ∀ j, z j < 18446744073709551616) (hs : SetAt z lo m a w.heap.size w) (ht : TabAt 0 Lib.deBruijn64tab w) (h0 : 0 < w.heap.size) :
    Calls Tryf.prog 19 #[.agg #[.int .i64 (lo : Nat), .slice a m cap], .int .i64 (id : Nat), .bool false] w fun e w' => ∃ r : Int, e = .returned (.int .i64 r) ∧ NC (bitW (wd z lo m)) id r ∧ Below w.heap.size w w' := by
  have HW0 := hide (fun n => (scanw_start (cap := cap) hs ht h0).next (below_drewN _ _ n))
  clear hs ht
  have HX := hide (fun k => (⟨wd_lt z lo m k hz, bitW_at (wd z lo m) k⟩ : wd z lo m k < 18446744073709551616 ∧ ∀ t, t < 64 → bitW (wd z lo m) (64 * k + t) = (wd z lo m k).testBit t))
  have HHIGH := hide (fun u (h : lo + m ≤ u / 64) => bitW_zero (wd z lo m) u (wd_high z lo m _ h))
  have HM := hide (mask_val (id % 64) (by omega))
  clear hz
  generalize hbb : bitW (wd z lo m) = b at *
  clear hbb
  go_enter Tryf.func19, Tryf.ntmps19
  go_wp2
  go_quiet (fail)
  have HW := hide (HW0.out nq)
  clear HW0
  generalize (w.alloc (.cells #[.int .i64 (lo : Nat), .slice a m cap] 26)).drewN nq = W1 at *
  rw [HM.out]
  generalize hMK : 18446744073709551616 - 2 ^ (id % 64) = MK at *
  have HST := hide (show ScanI 0 id (fun t => !b t) (.int .i64 ((id : Int) / 64)) (.int .u64 (MK : Nat)) from ⟨id / 64, id % 64, MK, by simp, rfl, by omega, by omega, by omega, by omega, hMK.symm, fun u _ h2 => by omega⟩)
  clear hMK HM
  have hx0 := HW.out.bx0
  have hx1 := HW.out.bx1
  go_wp2
  clear hx0 hx1
  go_loopw [7, 8] (fun k mk wr => ScanI 0 id (fun t => !b t) k mk ∧ ScanW z lo m a cap w wr) (fun k _ _ => lo + m - (intOf k).toNat)
  case atStart => exact ⟨HST.out, HW.out⟩
  case round =>
    obtain ⟨⟨kk, s, MK', rfl, rfl, hkk, hs64, hlok, hids, hMK, hall⟩, hwr⟩ := hrel
    clear HST HW
    have HW := hide hwr
    have HMK := hide hMK
    have HALL := hide hall
    clear hwr hMK hall
    have hx0 := HW.out.bx0
    have hx1 := HW.out.bx1
    obtain ⟨hXlt, hXb⟩ := HX.out kk
    obtain ⟨X, hX⟩ : ∃ X, wd z lo m kk = X := ⟨_, rfl⟩
    rw [hX] at hXlt hXb
    have HXE := hide hX
    have HXB := hide (show ∀ t, t < 64 → (fun t => !b t) (64 * kk + t) = (18446744073709551615 - X).testBit t from fun t ht => by rw [not_bit X t hXlt ht, ← hXb t ht])
    clear hX hXb
    have hnot := u64_not X hXlt
    obtain ⟨NX, hNX⟩ : ∃ NX, 18446744073709551615 - X = NX := ⟨_, rfl⟩
    have hNXlt : NX < 18446744073709551616 := by omega
    have HNZ := hide (show X = 0 → NX = 18446744073709551615 by omega)
    rw [hNX] at hnot HXB
    clear hNX
    have hMKlt : MK' < 18446744073709551616 := by have := HMK.out; have := Nat.pow_pos (n := s) (show 0 < 2 by omega); omega
    have hand := bits_and_u64_nat NX MK' hNXlt hMKlt
    obtain ⟨Y, hY⟩ : ∃ Y, NX &&& MK' = Y := ⟨_, rfl⟩
    rw [hY] at hand
    have hYlt : Y < 18446744073709551616 := by rw [← hY]; exact Nat.lt_of_le_of_lt Nat.and_le_left hNXlt
    have HY := hide hY
    clear hY
    by_cases hend : kk < lo + m
    case' pos => have hend1 : (kk : Int) < (lo : Int) + (m : Int) := by omega
    case' neg => have hend1 : decide ((kk : Int) < (lo : Int) + (m : Int)) = false := decide_eq_false (by omega)
    all_goals
      go_wp2_with fail
      refine (ScanW.end_ HW (by omega)).mono ?_
      rintro e w5 ⟨rfl, HW5, hx0, hx1⟩
      go_wp2_with fail
      refine (ScanW.word_ HW5 (by omega) kk (by omega) X HXE).mono ?_
      rintro e w6 ⟨rfl, HW6⟩
      clear HW HW5 hx0 hx1
      by_cases hY0 : Y = 0
      · have he : (((Y : Nat) : Int) != 0) = false := by rw [hY0]; rfl
        have HR := hide (round_zero (fun t => !b t) NX s kk hs64 HXB.out (by rw [← HMK.out, HY.out]; exact hY0) id HALL.out)
        have hend2 : kk < lo + m := by
          by_cases h : kk < lo + m
          · exact h
          · have h1 := HR.out (64 * kk + 63) (by omega) (by omega)
            have h2 := HHIGH.out (64 * kk + 63) (by omega)
            rw [h2] at h1; cases h1
        clear hY0
        go_wp2
        go_roundw
        case rel => exact ⟨⟨kk + 1, 0, 18446744073709551615, by go_num, rfl, by omega, by omega, by omega, by omega, by decide, HR.out⟩, HW6.out⟩
        case measure => simp [intOf]; omega
      · have he : (((Y : Nat) : Int) != 0) = true := by rw [bne_iff_ne]; omega
        have HF := hide (round_hit (fun t => !b t) NX s kk hNXlt hs64 HXB.out (by rw [← HMK.out, HY.out]; exact hY0) id hids HALL.out)
        rw [← HMK.out, HY.out] at HF
        have hc64 := (ctz_bit Y hY0 hYlt).1
        obtain ⟨c, hc⟩ : ∃ c, Lib.ctz 64 Y = c := ⟨_, rfl⟩
        rw [hc] at hc64 HF
        have HC := hide hc
        clear hc hY0
        go_wp2_with fail
        refine (ScanW.ctz_ HW6 Y c hYlt HC).mono ?_
        rintro e w7 ⟨rfl, rfl⟩
        go_wp2
        go_ret
        refine ⟨_, rfl, ⟨64 * kk + c, ?_, HF.out⟩, HW6.out.bl⟩
        go_num

end Go.Proofs.Qxb6630324aFmt.Walks

import Derived.Test.Qxb6630324aFmtBit
import Derived.BigQuiet
import Derived.Deep.RegionWith
namespace Go.Proofs.Qxb6630324aFmt.Walks
open Go.RowKit

attribute [local irreducible] bitW wd Lib.ctz Lib.deBruijn64tab

theorem tab_next {w w' : World} {B : Nat} (h : TabAt 0 Lib.deBruijn64tab w) (hb : Below B w w') (hB : 0 < B) : TabAt 0 Lib.deBruijn64tab w' :=
  fun j hj => by rw [hb.cell (p := ⟨0, j, none⟩) hB]; exact h j hj

/-- the worlds of a scan -/
structure ScanW (z : Nat → Nat) (lo m : Nat) (a : Option Addr) (cap : Nat) (w wr : World) : Prop where
  bx0 : wr.cell? ⟨w.heap.size, 0, none⟩ = some (.int .i64 (lo : Nat))
  bx1 : wr.cell? ⟨w.heap.size, 1, none⟩ = some (.slice a m cap)
  st : SetAt z lo m a wr.heap.size wr
  tab : TabAt 0 Lib.deBruijn64tab wr
  lt : w.heap.size < wr.heap.size
  bl : Below w.heap.size w wr
theorem ScanW.next {z : Nat → Nat} {lo m : Nat} {a : Option Addr} {cap : Nat} {w wr wr' : World} (h : ScanW z lo m a cap w wr) (hb : Below wr.heap.size wr wr') : ScanW z lo m a cap w wr' := by
  have hl := h.lt
  exact ⟨(hb.cell (p := ⟨w.heap.size, 0, none⟩) hl).trans h.bx0, (hb.cell (p := ⟨w.heap.size, 1, none⟩) hl).trans h.bx1, (h.st.next hb (Nat.le_refl _)).mono hb.size, tab_next h.tab hb (by omega), Nat.lt_of_lt_of_le hl hb.size, h.bl.trans (hb.mono (by omega))⟩
theorem scanw_start {z : Nat → Nat} {lo m : Nat} {a : Option Addr} {cap : Nat} {w : World} (hs : SetAt z lo m a w.heap.size w) (ht : TabAt 0 Lib.deBruijn64tab w) (h0 : 0 < w.heap.size) :
    ScanW z lo m a cap w (w.alloc (.cells #[.int .i64 (lo : Nat), .slice a m cap] 26)) := by
  have hb := bel_alloc w (.cells #[.int .i64 (lo : Nat), .slice a m cap] 26)
  have hnew := heap_alloc_new w (.cells #[.int .i64 (lo : Nat), .slice a m cap] 26)
  refine ⟨?_, ?_, (hs.next hb (Nat.le_refl _)).mono hb.size, tab_next ht hb h0, by simp, hb⟩
  · rw [cell_of_row _ _ _ _ _ _ hnew]; rfl
  · rw [cell_of_row _ _ _ _ _ _ hnew]; rfl
theorem ScanW.end_ {z : Nat → Nat} {lo m : Nat} {a : Option Addr} {cap : Nat} {w wr : World} (h : Hid (ScanW z lo m a cap w wr)) (hl : lo + m ≤ 70000) :
    Calls Tryf.prog 22 #[.agg #[.int .i64 (lo : Nat), .slice a m cap]] wr fun e w' => e = .returned (.int .i64 ((lo : Int) + (m : Int))) ∧ Hid (ScanW z lo m a cap w w') ∧ w'.cell? ⟨w.heap.size, 0, none⟩ = some (.int .i64 (lo : Nat)) ∧ w'.cell? ⟨w.heap.size, 1, none⟩ = some (.slice a m cap) := by
  refine (end_any lo m cap a wr hl).mono ?_
  rintro e w1 ⟨rfl, hb⟩
  have hg := h.out.next hb
  exact ⟨rfl, hide hg, hg.bx0, hg.bx1⟩
theorem ScanW.word_ {z : Nat → Nat} {lo m : Nat} {a : Option Addr} {cap : Nat} {w wr : World} (h : Hid (ScanW z lo m a cap w wr)) (hl : lo + m ≤ 70000) (k : Nat) (hk : k ≤ 70000) (X : Nat) (hX : Hid (wd z lo m k = X)) :
    Calls Tryf.prog 17 #[.agg #[.int .i64 (lo : Nat), .slice a m cap], .int .i64 (k : Nat)] wr fun e w' => e = .returned (.int .u64 (X : Nat)) ∧ Hid (ScanW z lo m a cap w w') := by
  refine (word_any z lo m cap k a wr hl hk h.out.st).mono ?_
  rintro e w1 ⟨rfl, hb⟩
  rw [hX.out]
  exact ⟨rfl, hide (h.out.next hb)⟩
theorem ScanW.ctz_ {z : Nat → Nat} {lo m : Nat} {a : Option Addr} {cap : Nat} {w wr : World} (h : Hid (ScanW z lo m a cap w wr)) (Y c : Nat) (hY : Y < 18446744073709551616) (hc : Hid (Lib.ctz 64 Y = c)) :
    Calls Tryf.prog 23 #[.int .u64 (Y : Nat)] wr fun e w' => e = .returned (.int .i64 (c : Nat)) ∧ w' = wr := by
  have := Tryf.bits_TrailingZeros64 Y wr hY (fun _ => h.out.tab)
  rw [hc.out] at this
  exact this

theorem mask_val (s : Nat) (hs : s < 64) : IntKind.u64.wrap (18446744073709551615 * 2 ^ s) = ((18446744073709551616 - 2 ^ s : Nat) : Int) := by
  have h1 : (2 : Nat) ^ s ≤ 2 ^ 63 := Nat.pow_le_pow_right (by omega) (by omega)
  have h2 : 0 < (2 : Nat) ^ s := Nat.pow_pos (by omega)
  have h3 : (2 : Int) ^ s = ((2 ^ s : Nat) : Int) := by simp
  rw [h3, IntKind.wrap_u64]
  generalize 2 ^ s = P at *
  omega
theorem below_drewN (B : Nat) (w : World) (n : Nat) : Below B w (w.drewN n) := by
  induction n with
  | zero => exact Below.refl _ _
  | succ n ih => exact ⟨ih.os, ih.tape, ih.output, ih.size, ih.block⟩

/-- where a scan stands: all places from id up to bit s of word kk are passed -/
def ScanI (L id : Nat) (b : Nat → Bool) (k mk : Value) : Prop :=
  ∃ kk s MK : Nat, k = .int .i64 (kk : Int) ∧ mk = .int .u64 (MK : Int) ∧ kk ≤ 65536 ∧ s < 64 ∧ L ≤ kk ∧ id ≤ 64 * kk + s ∧ MK = 18446744073709551616 - 2 ^ s ∧ ∀ u, id ≤ u → u < 64 * kk + s → b u = false

set_option maxHeartbeats 1000000 in
set_option maxRecDepth 20000 in
theorem scan_true (z : Nat → Nat) (lo m cap id : Nat) (a : Option Addr) (w : World) (hid : id ≤ 65536) (hl : lo + m ≤ 65536) (hz : ∀ j, z j < 18446744073709551616) (hs : SetAt z lo m a w.heap.size w) (ht : TabAt 0 Lib.deBruijn64tab w) (h0 : 0 < w.heap.size) :
    Calls Tryf.prog 19 #[.agg #[.int .i64 (lo : Nat), .slice a m cap], .int .i64 (id : Nat), .bool true] w fun e w' => ∃ r : Int, e = .returned (.int .i64 r) ∧ NS (bitW (wd z lo m)) id r ∧ Below w.heap.size w w' := by
  have HW0 := hide (fun n => (scanw_start (cap := cap) hs ht h0).next (below_drewN _ _ n))
  clear hs ht
  have HX := hide (fun k => (⟨wd_lt z lo m k hz, bitW_at (wd z lo m) k⟩ : wd z lo m k < 18446744073709551616 ∧ ∀ t, t < 64 → bitW (wd z lo m) (64 * k + t) = (wd z lo m k).testBit t))
  have HLOW := hide (fun u (h : u / 64 < lo) => bitW_zero (wd z lo m) u (wd_low z lo m _ h))
  have HHIGH := hide (fun u (h : lo + m ≤ u / 64) => bitW_zero (wd z lo m) u (wd_high z lo m _ h))
  have HM := hide (mask_val (id % 64) (by omega))
  clear hz
  generalize hbb : bitW (wd z lo m) = b at *
  clear hbb
  go_enter Tryf.func19, Tryf.ntmps19
  go_wp2
  go_quiet (fail)
  have HW := hide (HW0.out nq)
  clear HW0
  generalize (w.alloc (.cells #[.int .i64 (lo : Nat), .slice a m cap] 26)).drewN nq = W1 at *
  rw [HM.out]
  generalize hMK : 18446744073709551616 - 2 ^ (id % 64) = MK at *
  have HMK := hide hMK
  clear hMK HM
  have hx0 := HW.out.bx0
  have hx1 := HW.out.bx1
  by_cases hlow : id / 64 < lo
  case' pos =>
    have hlow1 : (id : Int) / 64 < (lo : Int) := by omega
    have HST := hide (show ScanI lo id b (.int .i64 (lo : Nat)) (.int .u64 18446744073709551615) from ⟨lo, 0, 18446744073709551615, rfl, rfl, by omega, by omega, Nat.le_refl _, by omega, by decide, fun u _ h2 => HLOW.out u (by omega)⟩)
  case' neg =>
    have hlow1 : decide ((id : Int) / 64 < (lo : Int)) = false := decide_eq_false (by omega)
    have HST := hide (show ScanI lo id b (.int .i64 ((id : Int) / 64)) (.int .u64 (MK : Nat)) from ⟨id / 64, id % 64, MK, by simp, rfl, by omega, by omega, by omega, by omega, HMK.out.symm, fun u _ h2 => by omega⟩)
  all_goals clear hlow HMK
  all_goals go_wp2
  all_goals clear hx0 hx1
  all_goals
    go_loopw [7, 8] (fun k mk wr => ScanI lo id b k mk ∧ ScanW z lo m a cap w wr) (fun k _ _ => lo + m - (intOf k).toNat)
    case atStart => exact ⟨HST.out, HW.out⟩
    case round =>
      obtain ⟨⟨kk, s, MK', rfl, rfl, hkk, hs64, hlok, hids, hMK, hall⟩, hwr⟩ := hrel
      clear HST HW
      have HW := hide hwr
      have HMK := hide hMK
      have HALL := hide hall
      clear hwr hMK hall
      have hx0 := HW.out.bx0
      have hx1 := HW.out.bx1
      by_cases hend : kk < lo + m
      · have hend1 : (kk : Int) < (lo : Int) + (m : Int) := by omega
        obtain ⟨hXlt, hXb⟩ := HX.out kk
        obtain ⟨X, hX⟩ : ∃ X, wd z lo m kk = X := ⟨_, rfl⟩
        rw [hX] at hXlt hXb
        have HXE := hide hX
        have HXB := hide hXb
        clear hX hXb
        have hMKlt : MK' < 18446744073709551616 := by have := HMK.out; have := Nat.pow_pos (n := s) (show 0 < 2 by omega); omega
        have hand := bits_and_u64_nat X MK' hXlt hMKlt
        obtain ⟨Y, hY⟩ : ∃ Y, X &&& MK' = Y := ⟨_, rfl⟩
        rw [hY] at hand
        have hYlt : Y < 18446744073709551616 := by rw [← hY]; exact Nat.lt_of_le_of_lt Nat.and_le_left hXlt
        have HY := hide hY
        clear hY
        go_wp2_with fail
        refine (ScanW.end_ HW (by omega)).mono ?_
        rintro e w5 ⟨rfl, HW5, hx0, hx1⟩
        go_wp2_with fail
        refine (ScanW.word_ HW5 (by omega) kk (by omega) X HXE).mono ?_
        rintro e w6 ⟨rfl, HW6⟩
        clear HW HW5 hx0 hx1
        by_cases hY0 : Y = 0
        · have he : (((Y : Nat) : Int) != 0) = false := by rw [hY0]; rfl
          have HY0 := hide hY0
          clear hY0
          go_wp2
          go_roundw
          case rel =>
            refine ⟨⟨kk + 1, 0, 18446744073709551615, by go_num, rfl, by omega, by omega, by omega, by omega, by decide, ?_⟩, HW6.out⟩
            exact round_zero b X s kk hs64 HXB.out (by rw [← HMK.out, HY.out]; exact HY0.out) id HALL.out
          case measure => simp [intOf]; omega
        · have he : (((Y : Nat) : Int) != 0) = true := by rw [bne_iff_ne]; omega
          have HF := hide (round_hit b X s kk hXlt hs64 HXB.out (by rw [← HMK.out, HY.out]; exact hY0) id hids HALL.out)
          rw [← HMK.out, HY.out] at HF
          have hc64 := (ctz_bit Y hY0 hYlt).1
          obtain ⟨c, hc⟩ : ∃ c, Lib.ctz 64 Y = c := ⟨_, rfl⟩
          rw [hc] at hc64 HF
          have HC := hide hc
          clear hc hY0
          go_wp2_with fail
          refine (ScanW.ctz_ HW6 Y c hYlt HC).mono ?_
          rintro e w7 ⟨rfl, rfl⟩
          go_wp2
          go_ret
          refine ⟨_, rfl, .inr ⟨64 * kk + c, ?_, HF.out⟩, HW6.out.bl⟩
          go_num
      · have hend1 : decide ((kk : Int) < (lo : Int) + (m : Int)) = false := decide_eq_false (by omega)
        go_wp2_with fail
        refine (ScanW.end_ HW (by omega)).mono ?_
        rintro e w5 ⟨rfl, HW5, hx0, hx1⟩
        go_wp2
        go_ret
        refine ⟨_, rfl, .inl ⟨rfl, fun u hu => ?_⟩, HW5.out.bl⟩
        by_cases h : u < 64 * kk + s
        · exact HALL.out u hu h
        · exact HHIGH.out u (by omega)

end Go.Proofs.Qxb6630324aFmt.Walks

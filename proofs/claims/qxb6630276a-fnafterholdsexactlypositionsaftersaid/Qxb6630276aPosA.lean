import Derived.Test.Qxb6630276aPosLem
namespace Go.Proofs.Qxb6630276a.Walks
open Go.RowKit

set_option maxHeartbeats 2000000 in
set_option maxRecDepth 20000 in
theorem pos_same (f q : Nat → Nat) (n : Nat) (w : World) (hn : n ≤ 256) (hf : ∀ j, f j < 256) (hfq : ∀ j, q j < 256) (HSAME : Hid (∀ i, i < n → bit f i = bit q i)) :
    Calls Try.prog 3 #[.agg (A f).toArray, .int .i64 n, .agg (A q).toArray] w fun e w' => e = .returned (.bool true) ∧ Below w.heap.size w w' := by
  obtain ⟨t, ht⟩ : ∃ t : Nat, t = 0 := ⟨_, rfl⟩
  have HHold : Hid (∀ l, l ∈ els f n → holdB (sib f l) l q = (l == t)) := by rw [ht]; exact case_same f q n hf HSAME.out
  have HCount : Hid ((els f n).count t = 0) := by rw [ht]; exact count_none f n
  clear ht
  have HX := hide (two_boxes w f q)
  have q1 : decide ((n : Int) < 0) = false := decide_eq_false (by omega)
  have q2 : decide (256 < (n : Int)) = false := decide_eq_false (by omega)
  obtain ⟨g1, hg1⟩ : ∃ g, cut f n = g := ⟨_, rfl⟩
  have HG1 := hide hg1
  clear hg1
  go_enter Try.func3, Try.ntmps3
  go_wp2_with ((with_reducible refine wpL_load 22 _ ?_); refine ⟨w.heap.size, 0, A f, _, rfl, by exact HX.out.1, Try.underlying22, rfl, by rw [info22, A_length], ?_⟩)
  refine (prefixOf_core f g1 n _ hn hf HG1).mono ?_
  rintro e w1 ⟨rfl, hb1⟩
  have HY := hide (boxes_next HX.out hb1)
  clear hb1 HX
  go_wp2_with fail
  refine (after_core f g1 n _ hn hf HG1).mono ?_
  rintro e W ⟨a1, cap1, rfl, hv1, hb2⟩
  have HX := hide (boxes_next HY.out hb2)
  have HV := hide hv1
  have HR := hide HX.out.1
  have HQ := hide HX.out.2.1
  have HB := hide HX.out.2.2.1
  have HZ := hide (show w.heap.size < W.heap.size ∧ w.heap.size + 1 < W.heap.size by have := HX.out.2.2.2; omega)
  clear HX HY hb2 hv1 HG1 w1
  go_wp2
  go_loopw [8, 9] (fun s i wr => ∃ k : Nat, k ≤ n ∧ i = .int .i64 k ∧ s = .bool false ∧ Below W.heap.size W wr) (fun _ i _ => n - (intOf i).toNat)
  case atStart => exact ⟨0, Nat.zero_le _, rfl, rfl, Below.refl _ _⟩
  case round =>
    obtain ⟨k, hk, rfl, rfl, hbw⟩ := hrel
    by_cases hlt : k < n
    · have HR1 := hide (range_below hbw HZ.out.1 HR.out)
      have HBW := hide hbw
      clear hbw
      go_wp2_with ((with_reducible refine wpL_load 22 _ ?_); refine ⟨w.heap.size, 0, A f, _, rfl, by exact HR1.out, Try.underlying22, rfl, by rw [info22, A_length], ?_⟩)
      refine (zzBit_below f k _ (by omega) hf).mono ?_
      rintro e wr1 ⟨rfl, hb⟩
      have HB1 := hide (HBW.out.trans (hb.mono HBW.out.size))
      have HR2 := hide (range_below HB1.out HZ.out.2 HQ.out)
      clear HR1 HBW hb
      go_wp2_with ((with_reducible refine wpL_load 22 _ ?_); refine ⟨(w.heap.size + 1), 0, A q, _, rfl, by exact HR2.out, Try.underlying22, rfl, by rw [info22, A_length], ?_⟩)
      refine (zzBit_below q k _ (by omega) hfq).mono ?_
      rintro e wr2 ⟨rfl, hb⟩
      have HB2 := hide (HB1.out.trans (hb.mono HB1.out.size))
      clear HR2 HB1 hb
      have hq : (((bit f k : Nat) : Int) != ((bit q k : Nat) : Int)) = false := by rw [HSAME.out k hlt]; simp
      go_wp2
      go_roundw
      case rel => exact ⟨k + 1, by omega, by go_num, rfl, HB2.out⟩
      case measure => simp [intOf]; omega
    · obtain rfl : n = k := by omega
      clear hlt hk
      have HBW := hide hbw
      clear hbw
      have hq2 : (((els f n).length : Int) != ((zc f 0 n : Nat) : Int)) = false := by rw [bne_eq_false_iff_eq, els_zeros]
      have hL : (els f n).length ≤ 256 := by have := els_length f n; omega
      go_wp2
      go_loopw [12, 13] (fun z i wr => ∃ k : Nat, k ≤ n ∧ i = .int .i64 k ∧ z = .int .i64 (zc f 0 k) ∧ Below W.heap.size W wr) (fun _ i _ => n - (intOf i).toNat)
      case atStart => exact ⟨0, Nat.zero_le _, rfl, rfl, HBW.out⟩
      case round =>
        clear HBW
        obtain ⟨k, hk, rfl, rfl, hbw⟩ := hrel
        have hzc := zc_le f 0 k
        by_cases hlt : k < n
        · have HRW := hide (range_below hbw (Nat.lt_of_lt_of_le HZ.out.1 (Nat.le_refl _)) HR.out)
          have HBW := hide hbw
          clear hbw
          go_wp2_with ((with_reducible refine wpL_load 22 _ ?_); refine ⟨w.heap.size, 0, A f, _, rfl, by exact HRW.out, Try.underlying22, rfl, by rw [info22, A_length], ?_⟩)
          refine (zzBit_below f k _ (by omega) hf).mono ?_
          rintro e wr1 ⟨rfl, hb⟩
          have HB1 := hide (HBW.out.trans (hb.mono HBW.out.size))
          clear HRW HBW hb
          by_cases hbit : bit f k = 0
          · have hb0 : (((bit f k : Nat) : Int) == 0) = true := by rw [hbit]; rfl
            have HZC := hide (zc_hit f 0 k (Nat.zero_le _) hbit)
            clear hbit
            go_wp2
            go_roundw
            case rel => exact ⟨k + 1, by omega, by go_num, by rw [HZC.out]; go_num, HB1.out⟩
            case measure => simp [intOf]; omega
          · have hb0 : (((bit f k : Nat) : Int) == 0) = false := beq_eq_false_iff_ne.2 (by omega)
            have HZC := hide (zc_miss f 0 k hbit)
            clear hbit
            go_wp2
            go_roundw
            case rel => exact ⟨k + 1, by omega, by go_num, by rw [HZC.out], HB1.out⟩
            case measure => simp [intOf]; omega
        · obtain rfl : n = k := by omega
          have HBW := hide hbw
          clear hbw hlt hk
          go_wp2
          go_loopw [14, 15] (fun h i wr => ∃ k : Nat, k ≤ (els f n).length ∧ i = .int .i64 k ∧ h = .int .i64 (((els f n).take k).count t) ∧ Below W.heap.size W wr) (fun _ i _ => (els f n).length - (intOf i).toNat)
          case atStart => exact ⟨0, Nat.zero_le _, rfl, rfl, HBW.out⟩
          case round =>
            clear HBW
            obtain ⟨k, hk, rfl, rfl, hbw⟩ := hrel
            have hct : ((els f n).take k).count t ≤ 256 := by have h1 := List.count_le_length (a := t) (l := (els f n).take k); have h2 := List.length_take_le k (els f n); omega
            by_cases hlt : k < (els f n).length
            · obtain ⟨l, hl⟩ : ∃ l, (els f n)[k]? = some l := ⟨_, List.getElem?_eq_getElem hlt⟩
              obtain ⟨hl1, hln, hlb⟩ := els_mem f n l (List.mem_of_getElem? hl)
              obtain ⟨g, rfl, hg, hr⟩ := HV.out.at_ k l hl
              have HSZ := hide (sib_zero f l hf hl1 hlb)
              have HCT := hide (count_take (els f n) t k l hl)
              have HHL := hide (HHold.out l (List.mem_of_getElem? hl))
              have HPREV := hide (show 1 ≤ k → ∃ l', (els f n)[k - 1]? = some l' ∧ l < l' from fun h1 => ⟨_, List.getElem?_eq_getElem (show k - 1 < (els f n).length by omega), els_next f n k l _ h1 hl (List.getElem?_eq_getElem (show k - 1 < (els f n).length by omega))⟩)
              have HLB := hide hlb
              have hsf := sib_lt f l hf
              obtain ⟨s, hs⟩ : ∃ s, sib f l = s := ⟨_, rfl⟩
              rw [hs] at hr hsf
              have HS := hide hs
              have HR0 := hide hr
              have HBW := hide hbw
              have HRW := hide (range_below hbw hg hr)
              clear hs hr hbw hl hlb
              go_wp2_with ((with_reducible refine wpL_load 26 _ ?_); refine ⟨g, k * 33, pfx s l, _, rfl, by exact HRW.out, Try.underlying26, rfl, by rw [info26, pfx_length], ?_⟩)
              refine (pBits_any s l _).mono ?_
              rintro e w2 ⟨rfl, hb2⟩
              have HB2 := hide (HBW.out.trans (hb2.mono HBW.out.size))
              have HW3 := hide (box_new w2 s)
              have HRW3 := hide (range_below (HB2.out.trans (HW3.out.2.1.mono HB2.out.size)) hg HR0.out)
              clear HRW HBW hb2
              go_wp2_with (first | ((with_reducible refine wpL_alloc 22 ?_); refine ⟨zero24, w2.heap.size, zinfo22, rfl, ?_⟩) | ((with_reducible refine wpL_store 22 _ _ ?_); refine ⟨w2.heap.size, 0, (A s).toArray, rfl, rfl, by rw [A_size]; exact there_new w2 zero24 22 32 (by rw [zero24_size]; omega), by rw [info22, A_size], A_all s, ?_⟩) | ((with_reducible refine wpL_load 26 _ ?_); refine ⟨g, k * 33, pfx s l, _, rfl, by exact HRW3.out, Try.underlying26, rfl, by rw [info26, pfx_length], ?_⟩))
              refine (pLen_below s l _).mono ?_
              rintro e w4 ⟨rfl, hb4⟩
              have HC4 := hide (cur_next ⟨HB2.out.trans (HW3.out.2.1.mono HB2.out.size), HW3.out.1, HW3.out.2.2⟩ hb4)
              have HSZ2 : Hid (∀ i, l ≤ i → i < 256 → bit s i = 0) := by have h := HSZ.out; rw [HS.out] at h; exact h
              have HHL2 : Hid (holdB s l q = (l == t)) := by have h := HHL.out; rw [HS.out] at h; exact h
              clear HSZ HHL HW3 HRW3 HB2 hb4 HR0
              go_wp2_with ((with_reducible refine wpL_load 22 _ ?_); refine ⟨w2.heap.size, 0, A s, _, rfl, by exact HC4.out.2.1, Try.underlying22, rfl, by rw [info22, A_length], ?_⟩)
              refine (zero_any s l _ (by omega) hsf HSZ2).mono ?_
              rintro e w5 ⟨rfl, hb5⟩
              have HC5 := hide (cur_next HC4.out hb5)
              clear HC4 hb5 HSZ2
              by_cases hk1 : 1 ≤ k
              · obtain ⟨l', hl', hll⟩ := HPREV.out hk1
                obtain ⟨hl1', hln', hlb'⟩ := els_mem f n l' (List.mem_of_getElem? hl')
                obtain ⟨g', hge, hg', hr'⟩ := HV.out.at_ (k - 1) l' hl'
                obtain rfl : g = g' := by simpa using hge
                have hbf := sib_before f l l' hf hl1 HLB.out hlb' hll
                have hsf' := sib_lt f l' hf
                obtain ⟨s', hs'⟩ : ∃ s', sib f l' = s' := ⟨_, rfl⟩
                rw [hs'] at hr' hsf' hbf
                rw [HS.out] at hbf
                have HE := hide hbf.1
                have HA := hide hbf.2.1
                have HBd := hide hbf.2.2
                have HR0 := hide hr'
                have HRP := hide (range_below HC5.out.1 hg' hr')
                have hkL : (0 : Int) < (k : Int) := by omega
                have hkL0 : (0 : Int) ≤ (k : Int) - 1 := by omega
                have hkL1 : (k : Int) - 1 < ((els f n).length : Int) := by omega
                clear hbf hs' hr' hge hl' hlb'
                go_wp2_with ((with_reducible refine wpL_load 26 _ ?_); refine ⟨g, (k - 1) * 33, pfx s' l', _, rfl, by exact HRP.out, Try.underlying26, rfl, by rw [info26, pfx_length], ?_⟩)
                refine (pBits_any s' l' _).mono ?_
                rintro e w6 ⟨rfl, hb6⟩
                have HC6 := hide (cur_next HC5.out hb6)
                have HW7 := hide (box_new w6 s')
                have HC7 := hide (cur_next HC6.out HW7.out.2.1)
                have HRW7 := hide (range_below HC7.out.1 hg' HR0.out)
                clear HC5 HC6 hb6 HRP HR0
                go_wp2_with (first | ((with_reducible refine wpL_alloc 22 ?_); refine ⟨zero24, w6.heap.size, zinfo22, rfl, ?_⟩) | ((with_reducible refine wpL_store 22 _ _ ?_); refine ⟨w6.heap.size, 0, (A s').toArray, rfl, rfl, by rw [A_size]; exact there_new w6 zero24 22 32 (by rw [zero24_size]; omega), by rw [info22, A_size], A_all s', ?_⟩) | ((with_reducible refine wpL_load 26 _ ?_); refine ⟨g, (k - 1) * 33, pfx s' l', _, rfl, by exact HRW7.out, Try.underlying26, rfl, by rw [info26, pfx_length], ?_⟩))
                refine (pLen_below s' l' _).mono ?_
                rintro e w8 ⟨rfl, hb8⟩
                have HC8 := hide (cur_next HC7.out hb8)
                have HD8 := hide (range_below hb8 HW7.out.2.2 HW7.out.1)
                clear HC7 HW7 HRW7 hb8
                go_wp2_with (first | ((with_reducible refine wpL_load 22 _ ?_); refine ⟨w6.heap.size, 0, A s', _, rfl, by exact HD8.out, Try.underlying22, rfl, by rw [info22, A_length], ?_⟩) | ((with_reducible refine wpL_load 22 _ ?_); refine ⟨w2.heap.size, 0, A s, _, rfl, by exact HC8.out.2.1, Try.underlying22, rfl, by rw [info22, A_length], ?_⟩))
                refine (before_any s' s l' l (l - 1) _ (by omega) hll (by omega) hsf' hsf HE HA HBd).mono ?_
                rintro e w9 ⟨rfl, hb9⟩
                have HC5 := hide (cur_next HC8.out hb9)
                clear HC8 HD8 hb9 HE HA HBd hkL0 hkL1
                have HRQ := hide (range_below HC5.out.1 HZ.out.2 HQ.out)
                cases hv : (l == t)
                · have HHL3 : Hid (holdB s l q = false) := by have h := HHL2.out; rw [hv] at h; exact h
                  have HC3 : Hid (((els f n).take (k + 1)).count t = ((els f n).take k).count t + 0) := by have h := HCT.out; rw [hv] at h; exact h
                  clear hv HCT HHL2
                  go_wp2_with (first | ((with_reducible refine wpL_load 22 _ ?_); refine ⟨w2.heap.size, 0, A s, _, rfl, by exact HC5.out.2.1, Try.underlying22, rfl, by rw [info22, A_length], ?_⟩) | ((with_reducible refine wpL_load 22 _ ?_); refine ⟨(w.heap.size + 1), 0, A q, _, rfl, by exact HRQ.out, Try.underlying22, rfl, by rw [info22, A_length], ?_⟩))
                  refine (holds_any s q l _ _ (by omega) hsf hfq HHL3).mono ?_
                  rintro e wA ⟨rfl, hbA⟩
                  have HCA := hide (cur_next HC5.out hbA)
                  clear HC5 HRQ hbA
                  go_wp2
                  go_roundw
                  case rel => exact ⟨k + 1, by omega, by go_num, by rw [HC3.out]; go_num, HCA.out.1⟩
                  case measure => simp [intOf]; omega
                · have HHL3 : Hid (holdB s l q = true) := by have h := HHL2.out; rw [hv] at h; exact h
                  have HC3 : Hid (((els f n).take (k + 1)).count t = ((els f n).take k).count t + 1) := by have h := HCT.out; rw [hv] at h; exact h
                  clear hv HCT HHL2
                  go_wp2_with (first | ((with_reducible refine wpL_load 22 _ ?_); refine ⟨w2.heap.size, 0, A s, _, rfl, by exact HC5.out.2.1, Try.underlying22, rfl, by rw [info22, A_length], ?_⟩) | ((with_reducible refine wpL_load 22 _ ?_); refine ⟨(w.heap.size + 1), 0, A q, _, rfl, by exact HRQ.out, Try.underlying22, rfl, by rw [info22, A_length], ?_⟩))
                  refine (holds_any s q l _ _ (by omega) hsf hfq HHL3).mono ?_
                  rintro e wA ⟨rfl, hbA⟩
                  have HCA := hide (cur_next HC5.out hbA)
                  clear HC5 HRQ hbA
                  go_wp2
                  go_roundw
                  case rel => exact ⟨k + 1, by omega, by go_num, by rw [HC3.out]; go_num, HCA.out.1⟩
                  case measure => simp [intOf]; omega
              · have hk0 : ¬ (0 : Int) < (k : Int) := by omega
                have HRQ := hide (range_below HC5.out.1 HZ.out.2 HQ.out)
                cases hv : (l == t)
                · have HHL3 : Hid (holdB s l q = false) := by have h := HHL2.out; rw [hv] at h; exact h
                  have HC3 : Hid (((els f n).take (k + 1)).count t = ((els f n).take k).count t + 0) := by have h := HCT.out; rw [hv] at h; exact h
                  clear hv HCT HHL2
                  go_wp2_with (first | ((with_reducible refine wpL_load 22 _ ?_); refine ⟨w2.heap.size, 0, A s, _, rfl, by exact HC5.out.2.1, Try.underlying22, rfl, by rw [info22, A_length], ?_⟩) | ((with_reducible refine wpL_load 22 _ ?_); refine ⟨(w.heap.size + 1), 0, A q, _, rfl, by exact HRQ.out, Try.underlying22, rfl, by rw [info22, A_length], ?_⟩))
                  refine (holds_any s q l _ _ (by omega) hsf hfq HHL3).mono ?_
                  rintro e wA ⟨rfl, hbA⟩
                  have HCA := hide (cur_next HC5.out hbA)
                  clear HC5 HRQ hbA
                  go_wp2
                  go_roundw
                  case rel => exact ⟨k + 1, by omega, by go_num, by rw [HC3.out]; go_num, HCA.out.1⟩
                  case measure => simp [intOf]; omega
                · have HHL3 : Hid (holdB s l q = true) := by have h := HHL2.out; rw [hv] at h; exact h
                  have HC3 : Hid (((els f n).take (k + 1)).count t = ((els f n).take k).count t + 1) := by have h := HCT.out; rw [hv] at h; exact h
                  clear hv HCT HHL2
                  go_wp2_with (first | ((with_reducible refine wpL_load 22 _ ?_); refine ⟨w2.heap.size, 0, A s, _, rfl, by exact HC5.out.2.1, Try.underlying22, rfl, by rw [info22, A_length], ?_⟩) | ((with_reducible refine wpL_load 22 _ ?_); refine ⟨(w.heap.size + 1), 0, A q, _, rfl, by exact HRQ.out, Try.underlying22, rfl, by rw [info22, A_length], ?_⟩))
                  refine (holds_any s q l _ _ (by omega) hsf hfq HHL3).mono ?_
                  rintro e wA ⟨rfl, hbA⟩
                  have HCA := hide (cur_next HC5.out hbA)
                  clear HC5 HRQ hbA
                  go_wp2
                  go_roundw
                  case rel => exact ⟨k + 1, by omega, by go_num, by rw [HC3.out]; go_num, HCA.out.1⟩
                  case measure => simp [intOf]; omega
            · obtain rfl : k = (els f n).length := by omega
              rw [List.take_length]
              clear hct
              rw [HCount.out]
              go_wp2
              go_ret
              exact ⟨rfl, HB.out.trans (hbw.mono (Nat.le_of_lt HZ.out.1))⟩

end Go.Proofs.Qxb6630276a.Walks

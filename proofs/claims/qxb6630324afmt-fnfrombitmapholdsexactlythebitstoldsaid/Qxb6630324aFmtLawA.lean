import Derived.Test.Qxb6630324aFmtRow
import Derived.OwnWalk
import Derived.BigQuiet
import Derived.Deep.RegionWith
namespace Go.Proofs.Qxb6630324aFmt.Walks
open Go.RowKit

attribute [local irreducible] sums pz popf wd Hid

theorem add_block (a : Addr) (n : Nat) : (a.add n).block = a.block := by unfold Addr.add; split <;> rfl

set_option maxHeartbeats 2000000 in
set_option maxRecDepth 20000 in
theorem lawA (z : Nat → Nat) (a0 : Option Addr) (n cap0 : Nat) (w : World) (hn : n ≤ 65536) (hz : ∀ j, z j < 18446744073709551616)
    (hc : ∀ j, j < n → ∃ x : Addr, a0 = some x ∧ x.block < w.heap.size ∧ w.cell? (x.add j) = some (.int .u64 (z j : Int))) :
    Calls Tryf.prog 3 #[.slice a0 n cap0] w fun e w' => e = .returned (.bool true) ∧ Below w.heap.size w w' := by
  obtain ⟨i0, hi, hz0, hz1, hz2⟩ := info_parts info24
  have HC := hide hc
  clear hc
  go_enter Tryf.func3, Tryf.ntmps3
  go_wp2_with fail
  refine (bytes5 a0 n cap0 w (by omega)).mono ?_
  rintro e w1 ⟨rfl, rfl⟩
  go_wp2
  go_loop [3] (fun h => ∃ k : Nat, 1024 ≤ k ∧ (k ≤ n ∨ k = 1024) ∧ h = .int .i64 k ∧ ∀ j, 1024 ≤ j → j < k → j < n → z j = 0) (fun h => n - (intOf h).toNat)
  case atStart => exact ⟨1024, Nat.le_refl _, .inr rfl, rfl, fun j h1 h2 => by omega⟩
  case round =>
    obtain ⟨k, hk1, hk2, rfl, hall⟩ := hrel
    have HALL := hide hall
    clear hall
    by_cases hkn : k < n
    · obtain ⟨x, rfl, hxb, hcx⟩ := HC.out k hkn
      have hkn1 : (k : Int) < (n : Int) := by omega
      by_cases hzk : z k = 0
      · have he : (((z k : Nat) : Int) != 0) = false := by rw [hzk]; rfl
        have HZK := hide hzk
        clear hzk
        go_wp2
        go_round
        case rel => exact ⟨k + 1, by omega, by omega, by go_num, fun j h1 h2 h3 => by
                      by_cases h : j = k
                      · rw [h]; exact HZK.out
                      · exact HALL.out j h1 (by omega) h3⟩
        case measure => simp [intOf]; omega
      · have he : (((z k : Nat) : Int) != 0) = true := by rw [bne_iff_ne]; omega
        clear hzk
        go_wp2
        go_ret
        exact ⟨rfl, Below.refl _ _⟩
    · have HBIG := hide (fun j (h1 : 1024 ≤ j) (h2 : j < n) => HALL.out j h1 (by omega) h2)
      clear HALL hk2
      have hkn1 : ¬ (k : Int) < (n : Int) := by omega
      go_wp2_with (at_make; refine wpList_make_full _ rfl _ _ 22 rfl 0 24 i0 (.int .u64 0) 1 Tryf.underlying22 hi hz0 hz1 .i64 .i64 _ _ n rfl rfl (by omega) (by omega) (by rw [hz2]; omega) (by unfold maxLen; omega) (Nat.zero_le _) ?_; intro w0 hown0 hgrow0)
      rename_i wA hA gA KK hKK hw1
      rw [rowF_zero] at hA hown0
      have HA := hide (show RowAt .u64 24 (fun _ => 0) w1.heap.size n w0 from RowAt.grown hA hgrow0)
      have HB := hide (show RowAt .u64 24 (fun _ => 0) wA.heap.size n w0 from hown0)
      have hAB : w1.heap.size < wA.heap.size := RowAt.lt hA
      have HBL := hide (((Below.refl w1.heap.size w1).grown gA (Nat.le_refl _) (by simp)).grown hgrow0 (Nat.le_of_lt hAB) (by simp))
      clear hA hown0 gA hgrow0 hkn1 hkn hk1
      generalize hg6 : wA.heap.size = g6 at *
      clear hg6 wA
      go_loopw [7] (fun h wr => ∃ k : Nat, k ≤ n ∧ h = .int .i64 k ∧ RowAt .u64 24 (fun j => if j < k then (z j : Int) else 0) w1.heap.size n wr ∧ RowAt .u64 24 (fun j => if j < k then (z j : Int) else 0) g6 n wr ∧ Below w1.heap.size w1 wr) (fun h _ => n - (intOf h).toNat)
      case atStart => exact ⟨0, Nat.zero_le _, rfl, HA.out, HB.out, HBL.out⟩
      case round =>
        obtain ⟨k2, hk2, rfl, h5, h6, hb2⟩ := hrel
        clear HA HB HBL
        have H5 := hide h5
        have H6 := hide h6
        have HB2 := hide hb2
        clear h5 h6 hb2
        by_cases hkn : k2 < n
        · obtain ⟨x, rfl, hxb, hcx⟩ := HC.out k2 hkn
          have hkn1 : (k2 : Int) < (n : Int) := by omega
          have hcx1 := (HB2.out.cell (p := x.add k2) (by rw [add_block]; exact hxb)).trans hcx
          have K5 := hide (H5.out.store k2 (z k2 : Int))
          have K6 := hide (H6.out.other w1.heap.size k2 (.int .u64 (z k2 : Int)) (by omega))
          have KB := hide (HB2.out.setCell (p := ⟨w1.heap.size, k2, none⟩) (Nat.le_refl _) (.int .u64 (z k2 : Int)))
          have hcx2 := (KB.out.cell (p := x.add k2) (by rw [add_block]; exact hxb)).trans hcx
          have hc5 := H5.out.cell k2 hkn
          have hf5 := H5.out.frozen k2
          have hc6 := K6.out.cell k2 hkn
          have hf6 := K6.out.frozen k2
          clear hcx H5 H6 HB2
          go_wp2
          go_roundw
          case rel =>
            refine ⟨k2 + 1, by omega, by go_num, ?_, ?_, KB.out.setCell (p := ⟨g6, k2, none⟩) (by show w1.heap.size ≤ g6; omega) _⟩
            · refine (K5.out.other g6 k2 _ (by omega)).congr fun j _ => ?_
              by_cases h1 : j = k2
              · subst h1; simp
              · by_cases h2 : j < k2
                · rw [if_neg h1, if_pos h2, if_pos (by omega)]
                · rw [if_neg h1, if_neg h2, if_neg (by omega)]
            · refine (K6.out.store k2 _).congr fun j _ => ?_
              by_cases h1 : j = k2
              · subst h1; simp
              · by_cases h2 : j < k2
                · rw [if_neg h1, if_pos h2, if_pos (by omega)]
                · rw [if_neg h1, if_neg h2, if_neg (by omega)]
          case measure => simp [intOf]; omega
        · obtain rfl : n = k2 := by omega
          have G5 := hide (show RowAt .u64 24 (fun j => (z j : Int)) w1.heap.size n wr from H5.out.congr fun j hj => if_pos hj)
          have G6 := hide (show RowAt .u64 24 (fun j => (z j : Int)) g6 n wr from H6.out.congr fun j hj => if_pos hj)
          clear H5 H6 hk2 hkn
          go_wp2_with fail
          refine (from_any z g6 n n wr hn (Nat.le_refl _) (by omega) hz HBIG.out G6.out.lt (fun j hj => G6.out.cell j hj)).mono ?_
          rintro e w2 ⟨lo, m, v, rfl, hset, hb3⟩
          obtain ⟨a, cap, rfl, hst, hge⟩ := hset.view2
          have HF := hide (hset.fits hz)
          have hfit := hset.fit
          have HG := hide (good_start (cap := cap) (n := n) G5.out G6.out (by omega) (by omega : w1.heap.size ≤ g6) HB2.out hb3 hst hge)
          clear hset hst hge hb3 G5 G6 HB2
          go_wp2
          generalize w2.alloc (.cells #[.int .i64 (lo : Nat), .slice a m cap] 26) = w3 at *
          generalize w2.heap.size = b8 at *
          clear w2
          go_loopw [9] (fun h wr => ∃ k : Nat, k ≤ n ∧ h = .int .i64 k ∧ Good z lo m a cap w1.heap.size g6 b8 n w1 wr) (fun h _ => n - (intOf h).toNat)
          case atStart => exact ⟨0, Nat.zero_le _, rfl, HG.out⟩
          case round =>
            obtain ⟨k3, hk3, rfl, hg3⟩ := hrel
            clear HG
            have HG := hide hg3
            clear hg3
            by_cases hkn : k3 < n
            · have hkn1 : (k3 : Int) < (n : Int) := by omega
              have hc5 := HG.out.want.cell k3 hkn
              obtain ⟨v, hv⟩ := HG.out.c
              have hc6 := hv.cell k3 hkn
              have hf6 := hv.frozen k3
              have HST := hide (fun x => HG.out.store k3 x)
              clear hv
              go_wp2
              go_roundw
              case rel => exact ⟨k3 + 1, by omega, by go_num, HST.out _⟩
              case measure => simp [intOf]; omega
            · obtain rfl : n = k3 := by omega
              clear hk3 hkn
              have HSB := hide (fun k => sums_le (pz z) 64 k (pz_le z))
              go_wp2
              go_loopw [10, 11] (fun t h wr => ∃ k : Nat, k ≤ n ∧ t = .int .i64 (sums (pz z) k : Nat) ∧ h = .int .i64 k ∧ Good z lo m a cap w1.heap.size g6 b8 n w1 wr) (fun _ h _ => n - (intOf h).toNat)
              case atStart => exact ⟨0, Nat.zero_le _, by rw [sums_nil]; rfl, rfl, HG.out⟩
              case round =>
                obtain ⟨k4, hk4, rfl, rfl, hg4⟩ := hrel
                clear HG
                have HG := hide hg4.drew
                have HG0 := hide hg4
                clear hg4
                have hsb := HSB.out k4
                have hsucc : sums (pz z) (k4 + 1) = sums (pz z) k4 + pz z k4 := sums_succ _ _
                have hpl := pz_le z k4
                have HPOP := hide (pop8_pz z k4 (hz k4))
                generalize hS : sums (pz z) k4 = S at *
                generalize pz z k4 = F at *
                have HS := hide hS
                have HX := hide hsucc
                clear hS hsucc
                by_cases hkn : k4 < n
                · have hkn1 : (k4 : Int) < (n : Int) := by omega
                  have hc5 := HG0.out.want.cell k4 hkn
                  have hx0 := HG0.out.bx0
                  have hx1 := HG0.out.bx1
                  go_wp2
                  go_region_with (go_at_call 7; refine (good_word (by assumption) HF hn k4 hkn).mono ?_; rintro e w5 ⟨rfl, HG5, hc55⟩)
                  all_goals go_wp2_with fail
                  all_goals
                    refine (HPOP.out _).mono ?_
                    rintro e w6 ⟨rfl, rfl⟩
                    go_wp2
                    go_roundw
                  all_goals first | exact ⟨k4 + 1, by omega, by rw [HX.out]; go_num, by go_num, HG5.out⟩ | (simp [intOf]; omega)
                · obtain rfl : n = k4 := by omega
                  clear HPOP HX hpl hk4 hkn HG
                  have HG := HG0
                  clear HG0
                  have hx0 := HG.out.bx0
                  have hx1 := HG.out.bx1
                  have hneg : decide ((lo : Int) < 0) = false := decide_eq_false (by omega)
                  have hfit2 : ¬ (n : Int) < (lo : Int) + (m : Int) := by omega
                  have HSP := hide (fun h : 0 < m => HF.out.pos h)
                  rw [HS.out] at HSP
                  go_wp2_with fail
                  refine (good_wordlow HG HF hn).mono ?_
                  rintro e w5 ⟨rfl, HG5, hx0, hx1⟩
                  clear HG
                  go_wp2_with fail
                  refine (good_wordn HG5 HF hn).mono ?_
                  rintro e w6 ⟨rfl, HG6, hx0, hx1⟩
                  clear HG5
                  go_wp2_with fail
                  refine (good_len HG6 HF hn hz S HS).mono ?_
                  rintro e w7 ⟨rfl, HG7, hx0, hx1⟩
                  clear HG6
                  go_wp2_with fail
                  refine (good_low HG7).mono ?_
                  rintro e w8 ⟨rfl, HG8, hx0, hx1⟩
                  clear HG7
                  go_wp2_with fail
                  refine (good_words HG8).mono ?_
                  rintro e w9 ⟨rfl, HG9⟩
                  clear HG8
                  by_cases hm : 0 < m
                  · have hm1 : (0 : Int) < (m : Int) := by omega
                    have hS0 : S ≠ 0 := HSP.out hm
                    have hSb : (((S : Nat) : Int) == 0) = false := beq_eq_false_iff_ne.2 (by omega)
                    obtain ⟨g, rfl, _, hc0⟩ := HG9.out.st.at_ 0 hm
                    obtain ⟨g', hgg, _, hc1⟩ := HG9.out.st.at_ (m - 1) (by omega)
                    obtain rfl : g = g' := by simpa using hgg
                    clear hgg
                    have hz1' := HF.out.first hm
                    have hz2' := HF.out.last hm
                    rw [Nat.add_zero] at hc0
                    rw [← Nat.add_sub_assoc (by omega)] at hc1
                    have he1 : (((z lo : Nat) : Int) == 0) = false := beq_eq_false_iff_ne.2 (by omega)
                    have he2 : (((z (lo + m - 1) : Nat) : Int) == 0) = false := beq_eq_false_iff_ne.2 (by omega)
                    clear hz1' hz2'
                    go_wp2
                    go_ret
                    exact ⟨rfl, HG9.out.bl⟩
                  · obtain rfl : m = 0 := by omega
                    by_cases hS0 : S = 0
                    · subst hS0
                      go_wp2
                      go_ret
                      exact ⟨rfl, HG9.out.bl⟩
                    · have hSb : (((S : Nat) : Int) == 0) = false := beq_eq_false_iff_ne.2 (by omega)
                      go_wp2
                      go_ret
                      exact ⟨rfl, HG9.out.bl⟩

end Go.Proofs.Qxb6630324aFmt.Walks

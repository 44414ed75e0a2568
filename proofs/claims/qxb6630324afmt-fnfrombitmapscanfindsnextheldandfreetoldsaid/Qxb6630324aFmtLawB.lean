import Derived.Test.Qxb6630324aFmtRowB
namespace Go.Proofs.Qxb6630324aFmt.Walks
open Go.RowKit

attribute [local irreducible] bitW wd Lib.ctz Lib.deBruijn64tab NS NC

theorem add_block (a : Addr) (n : Nat) : (a.add n).block = a.block := by unfold Addr.add; split <;> rfl

theorem copy_words (z : Nat → Nat) (x : Addr) (g n cap0 : Nat) (w1 w0 : World) (hn : n ≤ 65536) (hr : RowAt .u64 24 (fun _ => 0) g n w0) (hbl : Below w1.heap.size w1 w0) (hg : w1.heap.size ≤ g)
    (hc : ∀ j, j < n → ∃ x' : Addr, some x = some x' ∧ x'.block < w1.heap.size ∧ w1.cell? (x'.add j) = some (.int .u64 (z j : Int))) :
    ∃ Wp, Sem.run Tryf.prog (Builtin.copy_ #[22, 22] 3 #[.slice (some ⟨g, 0, none⟩) n n, .slice (some x) n cap0]) w0 = .ok (.int .i64 (n : Int)) Wp ∧ WordsAt z (some ⟨g, 0, none⟩) n n Wp ∧ Below w1.heap.size w1 Wp := by
  have hh := hr.heap
  have hrun := run_copy_row (P := Tryf.prog) w0 22 22 3 24 g 0 n n x n cap0 (rowF .u64 (fun _ => 0) n).toArray 24 (rowF .u64 (fun j => (z j : Int)) n) Tryf.underlying22 info24s hh (by rw [rowF_length]; simp)
    (fun j v hj => by
      have hjn : j < n := by have := (List.getElem?_eq_some_iff.1 hj).1; rwa [rowF_length] at this
      rw [rowF_get _ _ _ _ hjn] at hj
      obtain ⟨x', hx, hb, hcell⟩ := hc j hjn
      obtain rfl : x = x' := by simpa using hx
      rw [hbl.cell (p := x.add j) (by rw [add_block]; exact hb), hcell]; exact hj)
    (by simp [rowF_length]) (fun v hv => by simp only [rowF, List.mem_map] at hv; obtain ⟨j, _, rfl⟩ := hv; rfl)
  rw [show (rowF .u64 (fun _ => 0) n).toArray.toList.take 0 ++ rowF .u64 (fun j => (z j : Int)) n ++ (rowF .u64 (fun _ => 0) n).toArray.toList.drop (0 + (rowF .u64 (fun j => (z j : Int)) n).length) = rowF .u64 (fun j => (z j : Int)) n by
    rw [List.take_zero, List.nil_append, List.drop_eq_nil_of_le (by simp [rowF_length]), List.append_nil], rowF_length] at hrun
  refine ⟨_, hrun, .inr ⟨g, rfl, Nat.le_refl _, by omega, ?_, fun j hj => ?_⟩, below_setRow hbl hg _⟩
  · simpa [World.setRow] using hr.lt
  · rw [cell_of_row _ _ _ _ _ _ (setRow_heap w0 g _ _ _ _ hh)]
    have := rowF_get .u64 (fun j => (z j : Int)) n j hj
    simpa using this

/-- the two rows of answers, filled from i on -/
def Sweep (b : Nat → Bool) (g7 g8 M i : Nat) (W wr : World) : Prop :=
  ∃ v7 v8, RowAt .i64 3 v7 g7 (M + 1) wr ∧ RowAt .i64 3 v8 g8 (M + 1) wr ∧ (∀ t, i ≤ t → t ≤ M → NS b t (v7 t) ∧ NC b t (v8 t)) ∧ Below W.heap.size W wr
theorem bit_end {z : Nat → Nat} {n M : Nat} (h : ∃ N, M = 64 * N ∧ N ≤ n ∧ ∀ j, N ≤ j → j < n → z j = 0) : ∀ j, M ≤ j → bitW (Zn z n) j = false := by
  intro j hj
  obtain ⟨N, rfl, h1, h2⟩ := h
  apply bitW_zero
  unfold Zn
  by_cases hk : j / 64 < n
  · rw [if_pos hk]; exact h2 _ (by omega) hk
  · rw [if_neg hk]
theorem bit_at {z : Nat → Nat} {n M : Nat} (h : ∃ N, M = 64 * N ∧ N ≤ n ∧ ∀ j, N ≤ j → j < n → z j = 0) {q : Nat} (hq : q < M) (_hz : ∀ j, z j < 18446744073709551616) : q / 64 < n ∧ bitW (Zn z n) q = decide (z (q / 64) / 2 ^ (q % 64) % 2 = 1) := by
  obtain ⟨N, rfl, h1, h2⟩ := h
  have hk : q / 64 < n := by omega
  refine ⟨hk, ?_⟩
  have : bitW (Zn z n) (64 * (q / 64) + q % 64) = _ := bitW_at (Zn z n) (q / 64) (q % 64) (by omega)
  rw [show 64 * (q / 64) + q % 64 = q by omega] at this
  rw [this, Nat.testBit_eq_decide_div_mod_eq]
  unfold Zn
  rw [if_pos hk]
theorem sweep_start {b : Nat → Bool} {M : Nat} {W : World} (hb : ∀ j, M ≤ j → b j = false) (g8 : Nat) (wB : World) (hg : W.heap.size < g8) (h7 : RowAt .i64 3 (fun _ => 0) W.heap.size (M + 1) wB) (h8 : RowAt .i64 3 (fun _ => 0) g8 (M + 1) wB) (hbl : Below W.heap.size W wB) :
    Sweep b W.heap.size g8 M M W ((wB.setCell ⟨W.heap.size, M, none⟩ (.int .i64 (-1))).setCell ⟨g8, M, none⟩ (.int .i64 (M : Int))) := by
  refine ⟨_, _, (h7.store M (-1)).other g8 M _ (by omega), (h8.other W.heap.size M _ (by omega)).store M (M : Int), fun t h1 h2 => ?_, (hbl.setCell (p := ⟨W.heap.size, M, none⟩) (Nat.le_refl _) _).setCell (p := ⟨g8, M, none⟩) (Nat.le_of_lt hg) _⟩
  obtain rfl : t = M := by omega
  simp only [if_true]
  exact ⟨by unfold NS; exact .inl ⟨rfl, hb⟩, NC.here (hb t (Nat.le_refl _))⟩

theorem sweep_step {b : Nat → Bool} {g7 g8 M q : Nat} {W wr : World} {v7 v8 : Nat → Int} (hg7 : W.heap.size ≤ g7) (hg : g7 < g8) (h7 : RowAt .i64 3 v7 g7 (M + 1) wr) (h8 : RowAt .i64 3 v8 g8 (M + 1) wr) (hv : ∀ t, q + 1 ≤ t → t ≤ M → NS b t (v7 t) ∧ NC b t (v8 t)) (hbl : Below W.heap.size W wr) (a c : Int) (ha : NS b q a) (hc : NC b q c) :
    Sweep b g7 g8 M q W ((wr.setCell ⟨g7, q, none⟩ (.int .i64 a)).setCell ⟨g8, q, none⟩ (.int .i64 c)) := by
  refine ⟨_, _, (h7.store q a).other g8 q _ (by omega), (h8.other g7 q _ (by omega)).store q c, fun t h1 h2 => ?_, (hbl.setCell (p := ⟨g7, q, none⟩) hg7 _).setCell (p := ⟨g8, q, none⟩) (by show W.heap.size ≤ g8; omega) _⟩
  by_cases h : t = q
  · subst h; simp only [if_true]; exact ⟨ha, hc⟩
  · simp only [if_neg h]; exact hv t (by omega) h2
theorem and_one (X s : Nat) (hX : X < 18446744073709551616) : bits .and .u64 ((X : Int) / 2 ^ s) 1 = ((X / 2 ^ s % 2 : Nat) : Int) := by
  have h := bits_and_u64_nat (X / 2 ^ s) 1 (Nat.lt_of_le_of_lt (Nat.div_le_self _ _) hX) (by decide)
  rw [Nat.and_one_is_mod] at h
  rw [← h]
  simp

set_option maxHeartbeats 8000000 in
set_option maxRecDepth 20000 in
theorem lawB (z : Nat → Nat) (a0 : Option Addr) (n cap0 : Nat) (w : World) (hn : n ≤ 65536) (hz : ∀ j, z j < 18446744073709551616)
    (hc : ∀ j, j < n → ∃ x : Addr, a0 = some x ∧ x.block < w.heap.size ∧ w.cell? (x.add j) = some (.int .u64 (z j : Int))) (hnil : a0 = none → n = 0) (ht : TabAt 0 Lib.deBruijn64tab w) (h0 : 0 < w.heap.size) :
    Calls Tryf.prog 4 #[.slice a0 n cap0] w fun e w' => e = .returned (.bool true) ∧ Below w.heap.size w w' := by
  obtain ⟨i0, hi, hz0, hz1, hz2⟩ := info_parts info24
  obtain ⟨i3, hi3, hy0, hy1, hy2⟩ := info_parts info3
  have HC := hide hc
  have HT := hide ht
  have HNIL := hide hnil
  clear hc ht hnil
  by_cases hnone : a0.isNone = true
  case' pos =>
    have HW0 := hide (show WordsAt z a0 n cap0 w from .inl ⟨by simpa using hnone, HNIL.out (by simpa using hnone)⟩)
    go_enter Tryf.func4, Tryf.ntmps4
    go_wp2_with fail
    refine (bytes12 a0 n cap0 w (by omega)).mono ?_
    rintro e w2 ⟨rfl, rfl⟩
    go_wp2
    have HNIL0 := hide (HNIL.out (by simpa using hnone))
    clear hnone HNIL HC
    obtain ⟨Wp, hWp⟩ : ∃ Wp, Wp = w2 := ⟨_, rfl⟩
    have HB := hide (show Below w2.heap.size w2 Wp by rw [hWp]; exact Below.refl _ _)
    rw [← hWp] at HW0
    rw [← hWp]
    have HW := HW0
    have HNB := hide (show n ≤ 1024 by rw [HNIL0.out]; omega)
    clear hWp HW0 HNIL0
    generalize a0 = A at *
  case' neg =>
    obtain ⟨x, rfl⟩ : ∃ x, a0 = some x := by cases a0 with | none => exact absurd rfl hnone | some x => exact ⟨x, rfl⟩
    clear hnone HNIL
    go_enter Tryf.func4, Tryf.ntmps4
    go_wp2_with fail
    refine (bytes12 (some x) n cap0 w (by omega)).mono ?_
    rintro e w2 ⟨rfl, rfl⟩
    go_upto_region 7 with (at_make; refine wpList_make_full _ rfl _ _ 22 rfl 0 24 i0 (.int .u64 0) 1 Tryf.underlying22 hi hz0 hz1 .i64 .i64 _ _ n rfl rfl (by omega) (by omega) (by rw [hz2]; omega) (by unfold maxLen; omega) (Nat.zero_le _) ?_; intro w0 hown0 hgrow0)
    rw [rowF_zero] at hown0
    obtain ⟨Wp, hcopy, hW, hB⟩ := copy_words z x w2.heap.size n cap0 w2 w0 hn hown0 ((Below.refl _ _).grown hgrow0 (Nat.le_refl _) (by simp)) (Nat.le_refl _) HC.out
    have HB := hide hB
    have HW := hide hW
    clear hB hW hown0 hgrow0 HC
    go_wp2
    clear hcopy
    generalize (some (⟨w2.heap.size, 0, none⟩ : Addr)) = A at *
  all_goals
    go_loop [4] (fun h => ∃ k : Nat, 1024 ≤ k ∧ (k ≤ n ∨ k = 1024) ∧ h = .int .i64 k ∧ ∀ j, 1024 ≤ j → j < k → j < n → z j = 0) (fun h => n - (intOf h).toNat)
    case atStart => exact ⟨1024, Nat.le_refl _, .inr rfl, rfl, fun j h1 h2 => by omega⟩
    case round =>
      obtain ⟨k, hk1, hk2, rfl, hall⟩ := hrel
      have HALL := hide hall
      clear hall
      by_cases hkn : k < n
      · obtain ⟨g, hA, hg, hcx⟩ := HW.out.at_ k hkn
        subst hA
        have hkn1 : (k : Int) < (n : Int) := by omega
        by_cases hzk : z k = 0
        · have he : (((z k : Nat) : Int) != 0) = false := by rw [hzk]; rfl
          have HZK := hide hzk
          clear hzk
          go_wp2
          go_round
          case rel => exact ⟨k + 1, by omega, by omega, by go_num, fun j h1 h2 h3 => by
                        by_cases h : j = k
                        · rw [h]; exact HZK.out
                        · exact HALL.out j h1 (by omega) h3⟩
          case measure => simp [intOf]; omega
        · have he : (((z k : Nat) : Int) != 0) = true := by rw [bne_iff_ne]; omega
          clear hzk
          go_wp2
          go_ret
          exact ⟨rfl, HB.out⟩
      · have HBIG := hide (fun j (h1 : 1024 ≤ j) (h2 : j < n) => HALL.out j h1 (by omega) h2)
        clear HALL hk2
        have hkn1 : ¬ (k : Int) < (n : Int) := by omega
        by_cases hbig : 1024 < n
        all_goals try (exfalso; have := HNB.out; omega)
        all_goals first
          | (have hbig1 : (1024 : Int) < (n : Int) := by omega
             go_upto_region 18 with fail
             obtain ⟨M, hM⟩ : ∃ M : Nat, M = 65536 := ⟨_, rfl⟩
             rw [show decide ((65536 : Int) < (n : Int)) = false from decide_eq_false (by omega)]
             rw [show (65536 : Int) = (M : Int) by omega]
             have HMP := hide (show ∃ N, M = 64 * N ∧ N ≤ n ∧ ∀ j, N ≤ j → j < n → z j = 0 from ⟨1024, by omega, by omega, HBIG.out⟩)
             have hM65 : M ≤ 65536 := by omega
             clear hM)
          | (have hbig1 : ¬ (1024 : Int) < (n : Int) := by omega
             go_upto_region 18 with fail
             obtain ⟨M, hM⟩ : ∃ M : Nat, M = 64 * n := ⟨_, rfl⟩
             rw [show (n : Int) * 64 = (M : Int) by omega]
             have HMP := hide (show ∃ N, M = 64 * N ∧ N ≤ n ∧ ∀ j, N ≤ j → j < n → z j = 0 from ⟨n, by omega, by omega, fun j h1 h2 => by omega⟩)
             have hM65 : M ≤ 65536 := by omega
             clear hM)
        all_goals clear hbig hbig1 hkn hkn1 hk1
        all_goals
          have HSW := hide (sweep_start (b := bitW (Zn z n)) (M := M) (W := Wp) (bit_end HMP.out))
          have HBIT := hide (fun q (hq : q < M) => (bit_at HMP.out hq hz : q / 64 < n ∧ bitW (Zn z n) q = decide (z (q / 64) / 2 ^ (q % 64) % 2 = 1)))
          generalize hbb : bitW (Zn z n) = b at *
          have HBB := hide hbb
          clear hbb
          go_upto_region 19 with (at_make; refine wpList_make_full _ rfl _ _ 33 rfl 0 3 i3 (.int .i64 0) 1 Tryf.underlying33 hi3 hy0 hy1 .i64 .i64 _ _ (M + 1) rfl rfl (by omega) (by omega) (by rw [hy2]; omega) (by unfold maxLen; omega) (Nat.zero_le _) ?_; intro wA hownA hgrowA)
          go_upto_region 20 with (at_make; refine wpList_make_full _ rfl _ _ 33 rfl 0 3 i3 (.int .i64 0) 1 Tryf.underlying33 hi3 hy0 hy1 .i64 .i64 _ _ (M + 1) rfl rfl (by omega) (by omega) (by rw [hy2]; omega) (by unfold maxLen; omega) (Nat.zero_le _) ?_; intro wB hownB hgrowB)
          rw [rowF_zero] at hownA hownB
          have H7 := hide (show RowAt .i64 3 (fun _ => 0) Wp.heap.size (M + 1) wB from RowAt.grown hownA hgrowB)
          have H8 := hide (show RowAt .i64 3 (fun _ => 0) wA.heap.size (M + 1) wB from hownB)
          have hAB : Wp.heap.size < wA.heap.size := RowAt.lt hownA
          have HBL := hide (((Below.refl Wp.heap.size Wp).grown hgrowA (Nat.le_refl _) (by simp)).grown hgrowB (Nat.le_of_lt hAB) (by simp))
          clear hownA hownB hgrowA hgrowB
          generalize wA.heap.size = g8 at *
          have HS0 := hide (HSW.out g8 wB hAB H7.out H8.out HBL.out)
          have hc7 := H7.out.cell M (by omega)
          have hf7 := H7.out.frozen M
          have hc8 := (H8.out.other Wp.heap.size M (.int .i64 (-1)) (by omega)).cell M (by omega)
          have hf8 := (H8.out.other Wp.heap.size M (.int .i64 (-1)) (by omega)).frozen M
          clear H7 H8 HBL HSW
          go_wp2
          clear hc7 hf7 hc8 hf8
          go_loopw [9] (fun h wr => ∃ i : Nat, i ≤ M ∧ h = .int .i64 ((i : Int) - 1) ∧ Sweep b Wp.heap.size g8 M i Wp wr) (fun h _ => ((intOf h) + 1).toNat)
          case atStart => exact ⟨M, Nat.le_refl _, rfl, HS0.out⟩
          case round =>
            obtain ⟨i, hi', rfl, hsw⟩ := hrel
            clear HS0
            have HS0 := hide hsw
            clear hsw
            cases i with
            | succ q =>
              rw [show ((q + 1 : Nat) : Int) - 1 = (q : Int) by omega]
              obtain ⟨v7, v8, h7, h8, hv, hbl⟩ := HS0.out
              obtain ⟨hq64, hbq⟩ := HBIT.out q (by omega)
              obtain ⟨g, hA, hg, hcx⟩ := HW.out.at_ (q / 64) hq64
              subst hA
              have hcw := (hbl.cell (p := ⟨g, q / 64, none⟩) hg).trans hcx
              have hq1 : (q : Int) / 64 < (n : Int) := by omega
              have H7 := hide h7
              have H8 := hide h8
              have HV := hide hv
              have HBL := hide hbl
              have HBQ := hide hbq
              clear h7 h8 hv hbl hbq hcx HS0
              have hand := and_one (z (q / 64)) (q % 64) (hz _)
              have hc7 := H7.out.cell q (by omega)
              have hf7 := H7.out.frozen q
              by_cases hbit : z (q / 64) / 2 ^ (q % 64) % 2 = 1
              · have he : (bits .and .u64 ((z (q / 64) : Int) / 2 ^ (q % 64)) 1 == 1) = true := by rw [hand, hbit]; rfl
                have hbq1 : b q = true := HBQ.out.trans (decide_eq_true hbit)
                have HSN := hide (sweep_step (Nat.le_refl _) hAB H7.out H8.out HV.out HBL.out (q : Int) (v8 (q + 1)) (NS.here hbq1) (NC.back (HV.out (q + 1) (by omega) (by omega)).2 hbq1))
                have K8 := H8.out.other Wp.heap.size q (.int .i64 (q : Int)) (by omega)
                have hc8a := K8.cell (q + 1) (by omega)
                have hc8 := K8.cell q (by omega)
                have hf8 := K8.frozen q
                clear K8 hand hbit hbq1 H7 H8 HV HBL HBQ
                generalize v8 (q + 1) = r8 at *
                go_wp2
                go_roundw
                case rel => exact ⟨q, by omega, by go_num, HSN.out⟩
                case measure => simp [intOf]
              · have he : (bits .and .u64 ((z (q / 64) : Int) / 2 ^ (q % 64)) 1 == 1) = false := by rw [hand]; exact beq_eq_false_iff_ne.2 (by omega)
                have hbq1 : b q = false := HBQ.out.trans (decide_eq_false hbit)
                have HSN := hide (sweep_step (Nat.le_refl _) hAB H7.out H8.out HV.out HBL.out (v7 (q + 1)) (q : Int) (NS.back (HV.out (q + 1) (by omega) (by omega)).1 hbq1) (NC.here hbq1))
                have hc7a := H7.out.cell (q + 1) (by omega)
                have K8 := H8.out.other Wp.heap.size q (.int .i64 (v7 (q + 1))) (by omega)
                have hc8 := K8.cell q (by omega)
                have hf8 := K8.frozen q
                clear K8 hand hbit hbq1 H7 H8 HV HBL HBQ
                generalize v7 (q + 1) = r7 at *
                go_wp2
                go_roundw
                case rel => exact ⟨q, by omega, by go_num, HSN.out⟩
                case measure => simp [intOf]
            | zero =>
              rw [show ((0 : Nat) : Int) - 1 = -1 by omega]
              obtain ⟨v7, v8, h7, h8, hv, hbl⟩ := HS0.out
              have H7 := hide h7
              have H8 := hide h8
              have HV := hide (show ∀ t, t ≤ M → NS b t (v7 t) ∧ NC b t (v8 t) from fun t h => hv t (Nat.zero_le _) h)
              have HBL := hide hbl
              clear h7 h8 hv hbl HS0 HBIT HMP
              go_wp2_with fail
              refine (from_opt z A n _ wr hn hz HBIG.out (HW.out.next HBL.out)).mono ?_
              rintro e w3 ⟨lo, m, v, rfl, hset, hb3⟩
              obtain ⟨a, capS, rfl, hst⟩ := hset.view
              have HBW := hide (show bitW (wd z lo m) = b by rw [hset.wdz]; exact HBB.out)
              have hfit := hset.fit
              have HG := hide (goodB_start (cap := capS) (W := Wp) (H7.out.below hb3 H7.out.lt) (H8.out.below hb3 H8.out.lt) hst (tab_next (tab_next (tab_next HT.out HB.out h0) HBL.out (Nat.lt_of_lt_of_le h0 HB.out.size)) hb3 (Nat.lt_of_lt_of_le h0 (Nat.le_trans HB.out.size HBL.out.size))) (Nat.lt_of_lt_of_le h0 (Nat.le_trans HB.out.size (Nat.le_trans HBL.out.size hb3.size))) (HBL.out.trans (hb3.mono HBL.out.size)))
              clear hset hst hb3 H7 H8 HBL HBIG
              go_wp2
              generalize w3.alloc (.cells #[.int .i64 (lo : Nat), .slice a m capS] 26) = w4 at *
              generalize w3.heap.size = b10 at *
              clear w3
              go_loopw [11] (fun h wr => ∃ p : Nat, p ≤ M + 1 ∧ h = .int .i64 p ∧ GoodB z lo m a capS Wp.heap.size g8 b10 M v7 v8 Wp wr) (fun h _ => M + 1 - (intOf h).toNat)
              case atStart => exact ⟨0, Nat.zero_le _, rfl, HG.out⟩
              case round =>
                obtain ⟨p, hp, rfl, hgp⟩ := hrel
                clear HG
                have HG0 := hide hgp
                have HG := hide hgp.drew
                clear hgp
                by_cases hpM : p ≤ M
                · have hpM1 : (p : Int) ≤ (M : Int) := by omega
                  have hpM2 : (p : Int) < (M : Int) + 1 := by omega
                  have hx0 := HG0.out.bx0
                  have hx1 := HG0.out.bx1
                  have hc7 := HG0.out.r7.cell p (by omega)
                  clear HG0
                  go_wp2
                  go_region_with (go_at_call 13; refine (goodB_true (by assumption) (by omega) hM65 hz b HBW HV p hpM).mono ?_; rintro e w5 ⟨rfl, HG5, hc75⟩)
                  all_goals clear HG hx0 hx1 hc7
                  all_goals
                    have HG := hide HG5.out.drew
                    have hx0 := HG5.out.bx0
                    have hx1 := HG5.out.bx1
                    have hc8 := HG5.out.r8.cell p (by omega)
                    clear HG5 hc75
                  all_goals go_wp2
                  all_goals
                    go_region_with (go_at_call 13; refine (goodB_false (by assumption) (by omega) hM65 hz b HBW HV p hpM).mono ?_; rintro e w6 ⟨rfl, HG6, hc86⟩)
                  all_goals go_wp2
                  all_goals go_roundw
                  all_goals first | exact ⟨p + 1, by omega, by go_num, HG6.out⟩ | (simp [intOf]; omega)
                · obtain rfl : p = M + 1 := by omega
                  have hpM1 : ¬ (((M + 1 : Nat) : Int) ≤ (M : Int)) := by omega
                  go_wp2
                  go_ret
                  exact ⟨rfl, HB.out.trans (HG0.out.bl.mono HB.out.size)⟩

end Go.Proofs.Qxb6630324aFmt.Walks

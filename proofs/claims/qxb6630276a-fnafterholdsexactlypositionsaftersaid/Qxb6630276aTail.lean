import Derived.Test.Qxb6630276aEls
import Derived.BigQuiet
import Derived.Test.Qxb6630276aEq
namespace Go.Proofs.Qxb6630276a.Walks
open Go.RowKit

theorem zzBit_below (f : Nat → Nat) (i : Nat) (w : World) (hi : i < 256) (hf : ∀ j, f j < 256) :
    Calls Try.prog 7 #[.agg (A f).toArray, .int .i64 i] w fun e w' => e = .returned (.int .i64 (bit f i)) ∧ Below w.heap.size w w' := by
  refine (zzBit_any f i w hi hf).mono ?_
  rintro e w' ⟨rfl, rfl⟩
  exact ⟨rfl, (Below.refl _ _).alloc (Nat.le_refl _) _⟩

theorem pLen_below (f : Nat → Nat) (n : Nat) (w : World) :
    Calls Try.prog 9 #[.agg (pfx f n).toArray] w fun e w' => e = .returned (.int .i64 n) ∧ Below w.heap.size w w' := by
  refine (pLen_any f n w).mono ?_
  rintro e w' ⟨rfl, rfl⟩
  exact ⟨rfl, (Below.refl _ _).alloc (Nat.le_refl _) _⟩

/-! a Prefix read out of memory, as one rule of the walk: for regions that draw their order -/
def rd26 (w : World) (b o : Nat) : List Value := (List.range 33).map fun j => (w.cell? ⟨b, o + j, none⟩).getD undef
def ok26 (w : World) (b o : Nat) : Prop := ∀ j, j < 33 → (w.cell? ⟨b, o + j, none⟩).isSome = true

theorem rd26_of {w : World} {b o : Nat} {cs : List Value} (h : w.rangeAt b o cs) (hl : cs.length = 33) : rd26 w b o = cs ∧ ok26 w b o := by
  have hg : ∀ j, j < 33 → w.cell? ⟨b, o + j, none⟩ = cs[j]? := fun j hj => by
    rw [h j _ (List.getElem?_eq_getElem (by omega)), List.getElem?_eq_getElem (by omega)]
  refine ⟨?_, fun j hj => by rw [hg j hj, List.getElem?_eq_getElem (by omega)]; rfl⟩
  apply List.ext_getElem?
  intro j
  unfold rd26
  by_cases hj : j < 33
  · rw [List.getElem?_map, List.getElem?_range hj, Option.map_some, hg j hj, List.getElem?_eq_getElem (by omega)]; rfl
  · rw [List.getElem?_eq_none (by simp; omega), List.getElem?_eq_none (by omega)]

theorem range_of_rd {w : World} {b o : Nat} (h : ok26 w b o) : w.rangeAt b o (rd26 w b o) := by
  intro j v hv
  have hj : j < 33 := by have := (List.getElem?_eq_some_iff.1 hv).1; simpa [rd26] using this
  obtain ⟨u, hu⟩ := Option.isSome_iff_exists.1 (h j hj)
  unfold rd26 at hv
  rw [List.getElem?_map, List.getElem?_range hj, Option.map_some, hu] at hv
  rw [hu]; exact hv

theorem load26 (w : World) (b o : Nat) (h : ok26 w b o) : (Instr.loadAt 26 (.pointer (some ⟨b, o, none⟩))).run Try.prog w = .ok (.agg (rd26 w b o).toArray) w :=
  run_loadAt_mid w b o 26 (rd26 w b o) _ (range_of_rd h) Try.underlying26 rfl (by rw [info26]; simp [rd26])

/-- the load of a Prefix under a name that the walk does not open -/
def loadAt26 (v : Value) : Sem Value := Instr.loadAt 26 v
theorem exec_load26 (ρ : Operand → Value) (dst : Option Tmp) (x : Operand) (ty : TypeId) (pos : String) (after : Array Edge) (guard : Option (Nat × Bool)) :
    execOp ρ { dst := dst, op := .load 26 x, type := ty, pos := pos, after := after, guard := guard } = (do pure (.value (← loadAt26 (ρ x)))) := rfl
theorem run_load26 (w : World) (b o : Nat) (h : ok26 w b o) : (loadAt26 (.pointer (some ⟨b, o, none⟩))).run Try.prog w = .ok (.agg (rd26 w b o).toArray) w := load26 w b o h

/-- '!=' of two arrays of 32 bytes under a name that the walk does not open -/
def neqArr (x y : Operand) (a b : Value) : Sem Value := do eqGuard .neq 22 x y a b; binOp .neq 22 a b
theorem exec_neq22 (ρ : Operand → Value) (dst : Option Tmp) (x y : Operand) (t ty : TypeId) (pos : String) (after : Array Edge) (guard : Option (Nat × Bool)) :
    execOp ρ { dst := dst, op := .binOp .neq 22 x y t, type := ty, pos := pos, after := after, guard := guard } = (do pure (.value (← neqArr x y (ρ x) (ρ y)))) := rfl
theorem run_neqArr (x y : Operand) (f : Nat → Nat) (w : World) : (neqArr x y (.agg (A f).toArray) (.agg (A f).toArray)).run Try.prog w = .ok (.bool false) w := by
  unfold neqArr
  rw [Sem.run_bind, run_eqGuard_agg w .neq 22 x y _ _ guard22]
  exact neq22_run f w

attribute [local go_sem ↓] exec_load26 exec_neq22
attribute [local go_sem] run_neqArr
attribute [local go_sem] run_load26

/-- two Prefixes below a mark, over a draw and over a callee that lets all that was there stand -/
theorem keep_drew {W w0 : World} {g1 o1 g2 o2 : Nat} {cs1 cs2 : List Value} (h : rd26 w0 g1 o1 = cs1 ∧ ok26 w0 g1 o1 ∧ rd26 w0 g2 o2 = cs2 ∧ ok26 w0 g2 o2 ∧ Below W.heap.size W w0) :
    rd26 w0.drew g1 o1 = cs1 ∧ ok26 w0.drew g1 o1 ∧ rd26 w0.drew g2 o2 = cs2 ∧ ok26 w0.drew g2 o2 ∧ Below W.heap.size W w0.drew :=
  ⟨h.1, h.2.1, h.2.2.1, h.2.2.2.1, h.2.2.2.2.drew⟩
theorem keep_two {W w0 w' : World} {g1 o1 g2 o2 : Nat} {cs1 cs2 : List Value} (hg1 : g1 < W.heap.size) (hg2 : g2 < W.heap.size)
    (hb : Below w0.heap.size w0 w') (h : rd26 w0 g1 o1 = cs1 ∧ ok26 w0 g1 o1 ∧ rd26 w0 g2 o2 = cs2 ∧ ok26 w0 g2 o2 ∧ Below W.heap.size W w0) :
    rd26 w' g1 o1 = cs1 ∧ ok26 w' g1 o1 ∧ rd26 w' g2 o2 = cs2 ∧ ok26 w' g2 o2 ∧ Below W.heap.size W w' := by
  obtain ⟨h1, h2, h3, h4, h5⟩ := h
  have r1 := range_below hb (Nat.lt_of_lt_of_le hg1 h5.size) (range_of_rd h2)
  have r2 := range_below hb (Nat.lt_of_lt_of_le hg2 h5.size) (range_of_rd h4)
  have e1 := rd26_of r1 (by simp [rd26])
  have e2 := rd26_of r2 (by simp [rd26])
  exact ⟨e1.1.trans h1, e1.2, e2.1.trans h3, e2.2, h5.trans (hb.mono h5.size)⟩

theorem below_of_two {W w0 : World} {g1 o1 g2 o2 : Nat} {cs1 cs2 : List Value} (h : rd26 w0 g1 o1 = cs1 ∧ ok26 w0 g1 o1 ∧ rd26 w0 g2 o2 = cs2 ∧ ok26 w0 g2 o2 ∧ Below W.heap.size W w0) : Below W.heap.size W w0 := h.2.2.2.2

theorem after_core (f g : Nat → Nat) (n : Nat) (w : World) (hn : n ≤ 256) (hf : ∀ j, f j < 256) (HG : Hid (cut f n = g)) :
    Calls Try.prog 6 #[.agg (pfx g n).toArray] w fun e w' => ∃ a cap, e = .returned (.slice a (els f n).length cap) ∧ View f (els f n) a w'.heap.size w' ∧ Below w.heap.size w w' := by
  have := HG.out
  subst this
  refine (after_any f n w hn hf).mono ?_
  rintro e w' ⟨v, rfl, hown, hb⟩
  obtain ⟨a, cap, rfl, hv⟩ := view_of hown
  exact ⟨a, cap, rfl, hv, hb⟩

set_option maxHeartbeats 1000000 in
theorem tail_any (f : Nat → Nat) (n m : Nat) (w : World) (hmn : m ≤ n) (hn : n ≤ 256) (hf : ∀ j, f j < 256) :
    Calls Try.prog 4 #[.agg (A f).toArray, .int .i64 n, .int .i64 m] w fun e w' => e = .returned (.bool true) ∧ Below w.heap.size w w' := by
  have hr0 : (w.alloc (.cells (A f).toArray 22)).rangeAt w.heap.size 0 (A f) := range_of_row _ (heap_alloc_new w _)
  have hb0 : Below w.heap.size w (w.alloc (.cells (A f).toArray 22)) := (Below.refl _ _).alloc (Nat.le_refl _) _
  have hz0 : w.heap.size < (w.alloc (.cells (A f).toArray 22)).heap.size := by simp
  have HR0 := hide hr0
  have HB0 := hide hb0
  have HZ0 := hide hz0
  clear hr0 hb0 hz0
  have q1 : decide ((n : Int) < 0) = false := decide_eq_false (by omega)
  have q2 : decide (256 < (n : Int)) = false := decide_eq_false (by omega)
  have q3 : decide ((m : Int) < 0) = false := decide_eq_false (by omega)
  have q4 : decide ((n : Int) < (m : Int)) = false := decide_eq_false (by omega)
  obtain ⟨g1, hg1⟩ : ∃ g, cut f n = g := ⟨_, rfl⟩
  obtain ⟨g2, hg2⟩ : ∃ g, cut f m = g := ⟨_, rfl⟩
  have HG1 := hide hg1
  have HG2 := hide hg2
  clear hg1 hg2
  go_enter Try.func4, Try.ntmps4
  go_wp2_with ((with_reducible refine wpL_load 22 _ ?_); refine ⟨w.heap.size, 0, A f, _, rfl, by exact HR0.out, Try.underlying22, rfl, by rw [info22, A_length], ?_⟩)
  refine (prefixOf_core f g1 n _ hn hf HG1).mono ?_
  rintro e w1 ⟨rfl, hb1⟩
  have HR1 := hide (range_below hb1 HZ0.out HR0.out)
  have HB1 := hide (HB0.out.trans (hb1.mono (Nat.le_of_lt HZ0.out)))
  have HZ1 := hide (Nat.lt_of_lt_of_le HZ0.out hb1.size)
  clear HR0 HB0 HZ0 hb1
  go_wp2_with fail
  refine (after_core f g1 n _ hn hf HG1).mono ?_
  rintro e w2 ⟨a1, cap1, rfl, hv1, hb2⟩
  have HR2 := hide (range_below hb2 HZ1.out HR1.out)
  have HB2 := hide (HB1.out.trans (hb2.mono (Nat.le_of_lt HZ1.out)))
  have HZ2 := hide (Nat.lt_of_lt_of_le HZ1.out hb2.size)
  have HV2 := hide hv1
  clear HR1 HB1 HZ1 hb2 hv1
  go_wp2_with ((with_reducible refine wpL_load 22 _ ?_); refine ⟨w.heap.size, 0, A f, _, rfl, by exact HR2.out, Try.underlying22, rfl, by rw [info22, A_length], ?_⟩)
  refine (prefixOf_core f g2 m _ (by omega) hf HG2).mono ?_
  rintro e w3 ⟨rfl, hb3⟩
  have HR3 := hide (range_below hb3 HZ2.out HR2.out)
  have HB3 := hide (HB2.out.trans (hb3.mono (Nat.le_of_lt HZ2.out)))
  have HV3 := hide (HV2.out.next hb3 (Nat.le_refl _))
  have HZ3 := hide (show w.heap.size < w3.heap.size ∧ w2.heap.size ≤ w3.heap.size from ⟨Nat.lt_of_lt_of_le HZ2.out hb3.size, hb3.size⟩)
  clear HR2 HB2 HZ2 HV2 hb3
  go_wp2_with fail
  refine (after_core f g2 m _ (by omega) hf HG2).mono ?_
  rintro e W ⟨a2, cap2, rfl, hv2, hb4⟩
  have HR := hide (range_below hb4 HZ3.out.1 HR3.out)
  have HB := hide (HB3.out.trans (hb4.mono (Nat.le_of_lt HZ3.out.1)))
  have HV1 := hide (HV3.out.next hb4 HZ3.out.2)
  have HV2 := hide hv2
  have HZ := hide (show w.heap.size < W.heap.size ∧ w2.heap.size ≤ W.heap.size from ⟨Nat.lt_of_lt_of_le HZ3.out.1 hb4.size, Nat.le_trans HZ3.out.2 hb4.size⟩)
  clear HR3 HB3 HZ3 HV3 hb4 hv2 HG1 HG2
  go_wp2
  go_loopw [9, 10] (fun z i wr => ∃ k : Nat, m ≤ k ∧ k ≤ n ∧ i = .int .i64 k ∧ z = .int .i64 (zc f m k) ∧ Below W.heap.size W wr) (fun _ i _ => n - (intOf i).toNat)
  case atStart => exact ⟨m, Nat.le_refl _, hmn, rfl, by rw [zc_low _ _ _ (Nat.le_refl _)]; rfl, Below.refl _ _⟩
  case round =>
    obtain ⟨k, hk1, hk2, rfl, rfl, hbw⟩ := hrel
    have hzc := zc_le f m k
    by_cases hlt : k < n
    · have HRW := hide (range_below hbw HZ.out.1 HR.out)
      have HBW := hide hbw
      clear hbw
      go_wp2_with ((with_reducible refine wpL_load 22 _ ?_); refine ⟨w.heap.size, 0, A f, _, rfl, by exact HRW.out, Try.underlying22, rfl, by rw [info22, A_length], ?_⟩)
      refine (zzBit_below f k _ (by omega) hf).mono ?_
      rintro e wr1 ⟨rfl, hb⟩
      have HB1 := hide (HBW.out.trans (hb.mono HBW.out.size))
      clear HRW HBW hb
      by_cases hbit : bit f k = 0
      · have hb0 : (((bit f k : Nat) : Int) == 0) = true := by rw [hbit]; rfl
        have HZC := hide (zc_hit f m k hk1 hbit)
        clear hbit
        go_wp2
        go_roundw
        case rel => exact ⟨k + 1, by omega, by omega, by go_num, by rw [HZC.out]; go_num, HB1.out⟩
        case measure => simp [intOf]; omega
      · have hb0 : (((bit f k : Nat) : Int) == 0) = false := beq_eq_false_iff_ne.2 (by omega)
        have HZC := hide (zc_miss f m k hbit)
        clear hbit
        go_wp2
        go_roundw
        case rel => exact ⟨k + 1, by omega, by omega, by go_num, by rw [HZC.out], HB1.out⟩
        case measure => simp [intOf]; omega
    · obtain rfl : n = k := by omega
      have HBW := hide hbw
      obtain ⟨t, ht1, ht2, ht3⟩ := els_top f m n hmn
      have HT := hide (And.intro ht1 (And.intro ht2 ht3))
      have hL1 : (els f n).length ≤ 256 := by have := els_length f n; omega
      have HL := hide (show (els f n).length = zc f m n + (els f m).length by rw [ht1, List.length_append, ht2])
      clear ht1 ht2 ht3 hbw hlt hk1 hk2
      go_wp2
      go_loopw [11] (fun c wr => ∃ k : Nat, k ≤ zc f m n ∧ c = .int .i64 k ∧ Below W.heap.size W wr) (fun c _ => zc f m n - (intOf c).toNat)
      case atStart => exact ⟨0, Nat.zero_le _, rfl, HBW.out⟩
      case round =>
        rename_i wr0 _
        clear HBW
        obtain ⟨k, hk, rfl, hbw⟩ := hrel
        have HBW := hide hbw
        clear hbw
        by_cases hlt : k < zc f m n
        · obtain ⟨l, hl⟩ : ∃ l, (els f n)[k]? = some l := ⟨_, List.getElem?_eq_getElem (show k < (els f n).length by rw [HL.out]; omega)⟩
          have hml : m < l := HT.out.2.2 l (by rw [HT.out.1, List.getElem?_append_left (by rw [HT.out.2.1]; exact hlt)] at hl; exact List.mem_of_getElem? hl)
          have hln : l ≤ n := (els_mem f n l (List.mem_of_getElem? hl)).2.1
          obtain ⟨g, rfl, hg, hr⟩ := HV1.out.at_ k l hl
          obtain ⟨s, hs⟩ : ∃ s, sib f l = s := ⟨_, rfl⟩
          rw [hs] at hr
          have HRW := hide (range_below HBW.out (Nat.lt_of_lt_of_le hg HZ.out.2) hr)
          have hkL : (k : Int) < ((els f n).length : Int) := by have := HL.out; omega
          clear hs hr hg hl
          go_wp2_with ((with_reducible refine wpL_load_g 26 _ ?_); refine ⟨by rfl, g, k * 33, pfx s l, _, rfl, by exact HRW.out, Try.underlying26, rfl, by rw [info26, pfx_length], ?_⟩)
          refine (pLen_below s l _).mono ?_
          rintro e wr1 ⟨rfl, hb⟩
          have HB1 := hide (HBW.out.trans (hb.mono HBW.out.size))
          clear HRW HBW hb
          go_wp2
          go_roundw
          case rel => exact ⟨k + 1, by omega, by go_num, HB1.out⟩
          case measure => simp [intOf]; omega
        · obtain rfl : k = zc f m n := by omega
          have hq1 : (((zc f m n : Nat) : Int) != ((zc f m n : Nat) : Int)) = false := by simp
          have hq2 : (((els f n).length : Int) - ((zc f m n : Nat) : Int) != ((els f m).length : Int)) = false := by rw [bne_eq_false_iff_eq]; have := HL.out; omega
          by_cases h0 : (els f m).length = 0
          · have hd : decide (((zc f m n : Nat) : Int) < ((els f n).length : Int)) = false := decide_eq_false (by have := HL.out; omega)
            have hd2 : ¬ zc f m n < (els f n).length := by have := HL.out; omega
            have H0 := hide h0
            clear h0
            go_wp2
            go_loopw [12] (fun i wr => ∃ j : Nat, j ≤ (els f m).length ∧ i = .int .i64 j ∧ Below W.heap.size W wr) (fun i _ => (els f m).length - (intOf i).toNat)
            case atStart => exact ⟨0, Nat.zero_le _, rfl, HBW.out⟩
            case round =>
              obtain ⟨j, hj, rfl, hbw⟩ := hrel
              clear HBW
              have HBW := hide hbw
              clear hbw
              obtain rfl : j = (els f m).length := by have := H0.out; omega
              go_wp2
              go_ret
              exact ⟨rfl, HB.out.trans (HBW.out.mono (Nat.le_of_lt HZ.out.1))⟩
          · obtain ⟨l, hl⟩ : ∃ l, (els f m)[0]? = some l := ⟨_, List.getElem?_eq_getElem (by omega)⟩
            have hl1 : (els f n)[zc f m n]? = some l := by rw [HT.out.1, List.getElem?_append_right (by rw [HT.out.2.1]; omega), HT.out.2.1, Nat.sub_self]; exact hl
            have hln : l ≤ m := (els_mem f m l (List.mem_of_getElem? hl)).2.1
            obtain ⟨g, rfl, hg, hr⟩ := HV1.out.at_ _ l hl1
            obtain ⟨s, hs⟩ : ∃ s, sib f l = s := ⟨_, rfl⟩
            rw [hs] at hr
            have HRW := hide (range_below HBW.out (Nat.lt_of_lt_of_le hg HZ.out.2) hr)
            have hkL : ((zc f m n : Nat) : Int) < ((els f n).length : Int) := by have := HL.out; omega
            have hdl : decide ((m : Int) < (l : Int)) = false := decide_eq_false (by omega)
            have hdl2 : decide (m < l) = false := decide_eq_false (by omega)
            clear hs hr hg hl hl1 h0
            go_wp2_with ((with_reducible refine wpL_load_g 26 _ ?_); refine ⟨by rfl, g, zc f m n * 33, pfx s l, _, rfl, by exact HRW.out, Try.underlying26, rfl, by rw [info26, pfx_length], ?_⟩)
            refine (pLen_below s l _).mono ?_
            rintro e wr1 ⟨rfl, hb⟩
            have HB1 := hide (HBW.out.trans (hb.mono HBW.out.size))
            clear HRW HBW hb
            have HBW := HB1
            clear HB1
            go_wp2
            clear hln
            go_loopw [12] (fun i wr => ∃ j : Nat, j ≤ (els f m).length ∧ i = .int .i64 j ∧ Below W.heap.size W wr) (fun i _ => (els f m).length - (intOf i).toNat)
            case atStart => exact ⟨0, Nat.zero_le _, rfl, HBW.out⟩
            case round =>
              obtain ⟨j, hj, rfl, hbw⟩ := hrel
              clear HBW
              have HBW := hide hbw
              clear hbw
              by_cases hjl : j < (els f m).length
              · obtain ⟨l, hl⟩ : ∃ l, (els f m)[j]? = some l := ⟨_, List.getElem?_eq_getElem hjl⟩
                have hl1 : (els f n)[zc f m n + j]? = some l := by rw [HT.out.1, List.getElem?_append_right (by rw [HT.out.2.1]; omega), HT.out.2.1, Nat.add_sub_cancel_left]; exact hl
                have hln : l ≤ m := (els_mem f m l (List.mem_of_getElem? hl)).2.1
                obtain ⟨b1, hbe, hg1, hr1⟩ := HV1.out.at_ _ l hl1
                obtain rfl : g = b1 := by simpa using hbe
                clear hbe
                obtain ⟨b2, rfl, hg2, hr2⟩ := HV2.out.at_ _ l hl
                obtain ⟨s, hs⟩ : ∃ s, sib f l = s := ⟨_, rfl⟩
                rw [hs] at hr1 hr2
                rw [show zc f m n + j = ((zc f m n : Int) + (j : Int)).toNat by omega] at hr1
                have hg1' : g < W.heap.size := Nat.lt_of_lt_of_le hg1 HZ.out.2
                have hS := keep_two hg1' hg2 HBW.out ⟨(rd26_of hr1 (pfx_length _ _)).1, (rd26_of hr1 (pfx_length _ _)).2, (rd26_of hr2 (pfx_length _ _)).1, (rd26_of hr2 (pfx_length _ _)).2, Below.refl _ _⟩
                have hjL : (j : Int) < ((els f m).length : Int) := by omega
                have hjL1 : (zc f m n : Int) + (j : Int) < ((els f n).length : Int) := by have := HL.out; omega
                have hjL0 : (0 : Int) ≤ (zc f m n : Int) + (j : Int) := by omega
                have hjw : IntKind.i64.wrap ((zc f m n : Int) + (j : Int)) = (zc f m n : Int) + (j : Int) := IntWalk.i64_in _ ⟨by omega, by omega⟩
                clear hs hr1 hr2 hl hl1
                go_wp2
                go_region_held3 (fun w' => rd26 w' g (((zc f m n : Int) + (j : Int)).toNat * 33) = pfx s l ∧ ok26 w' g (((zc f m n : Int) + (j : Int)).toNat * 33) ∧ rd26 w' b2 (j * 33) = pfx s l ∧ ok26 w' b2 (j * 33) ∧ Below W.heap.size W w') (first | exact keep_drew (by assumption) | exact keep_two hg1' hg2 (by assumption) (by assumption))
                  (first | (go_at_call 9; refine (pLen_below s l _).mono ?_; rintro e w5 ⟨rfl, hb5⟩))
                all_goals clear hS
                all_goals go_wp2
                all_goals clear HBW
                all_goals
                  go_region_held3 (fun w' => rd26 w' g (((zc f m n : Int) + (j : Int)).toNat * 33) = pfx s l ∧ ok26 w' g (((zc f m n : Int) + (j : Int)).toNat * 33) ∧ rd26 w' b2 (j * 33) = pfx s l ∧ ok26 w' b2 (j * 33) ∧ Below W.heap.size W w') (first | exact keep_drew (by assumption) | exact keep_two hg1' hg2 (by assumption) (by assumption))
                    (first | (go_at_call 8; refine (pBits_any s l _).mono ?_; rintro e w6 ⟨rfl, hb6⟩))
                all_goals go_wp2
                all_goals go_roundw
                all_goals first | exact ⟨j + 1, by omega, by go_num, below_of_two (by assumption)⟩ | (simp [intOf]; omega)
              · obtain rfl : j = (els f m).length := by omega
                go_wp2
                go_ret
                exact ⟨rfl, HB.out.trans (HBW.out.mono (Nat.le_of_lt HZ.out.1))⟩

end Go.Proofs.Qxb6630276a.Walks

import Derived.Test.Qxb6630276aTail
import Derived.Deep.DrawnRows
namespace Go.Proofs.Qxb6630276a.Walks
open Go.RowKit

/-- do the first l bits of b and q agree? -/
def holdB (b : Nat → Nat) (l : Nat) (q : Nat → Nat) : Bool := decide (∀ i, i < l → bit b i = bit q i)

theorem two_boxes (w : World) (f g : Nat → Nat) :
    ((w.alloc (.cells (A f).toArray 22)).alloc (.cells (A g).toArray 22)).rangeAt w.heap.size 0 (A f) ∧
    ((w.alloc (.cells (A f).toArray 22)).alloc (.cells (A g).toArray 22)).rangeAt (w.heap.size + 1) 0 (A g) ∧
    Below w.heap.size w ((w.alloc (.cells (A f).toArray 22)).alloc (.cells (A g).toArray 22)) ∧
    w.heap.size + 2 ≤ ((w.alloc (.cells (A f).toArray 22)).alloc (.cells (A g).toArray 22)).heap.size := by
  refine ⟨World.rangeAt_alloc (range_of_row _ (heap_alloc_new w _)) _, ?_, ((Below.refl _ _).alloc (Nat.le_refl _) _).alloc (by simp) _, by simp⟩
  exact range_of_row _ (heap_alloc2_new w _ _)

set_option maxHeartbeats 400000 in
set_option maxRecDepth 20000 in
theorem zero_any (b : Nat → Nat) (l : Nat) (w : World) (hl : l ≤ 256) (hf : ∀ j, b j < 256) (HZ : Hid (∀ i, l ≤ i → i < 256 → bit b i = 0)) :
    Calls Try.prog 10 #[.agg (A b).toArray, .int .i64 l] w fun e w' => e = .returned (.bool true) ∧ Below w.heap.size w w' := by
  have HR := hide (range_of_row _ (heap_alloc_new w (.cells (A b).toArray 22)))
  have HB := hide ((Below.refl w.heap.size w).alloc (Nat.le_refl _) (.cells (A b).toArray 22))
  have HS := hide (show w.heap.size < (w.alloc (.cells (A b).toArray 22)).heap.size by simp)
  go_enter Try.func10, Try.ntmps10
  go_wp2
  generalize w.alloc (.cells (A b).toArray 22) = W at *
  go_loopw [5] (fun i wr => ∃ k : Nat, l ≤ k ∧ k ≤ 256 ∧ i = .int .i64 k ∧ Below W.heap.size W wr) (fun i _ => 256 - (intOf i).toNat)
  case atStart => exact ⟨l, Nat.le_refl _, hl, rfl, Below.refl _ _⟩
  case round =>
    obtain ⟨k, hk1, hk2, rfl, hbw⟩ := hrel
    by_cases hlt : k < 256
    · have HRW := hide (range_below hbw HS.out HR.out)
      have HBW := hide hbw
      clear hbw
      go_wp2_with ((with_reducible refine wpL_load 22 _ ?_); refine ⟨w.heap.size, 0, A b, _, rfl, by exact HRW.out, Try.underlying22, rfl, by rw [info22, A_length], ?_⟩)
      refine (zzBit_below b k _ hlt hf).mono ?_
      rw [HZ.out k hk1 hlt]
      rintro e wr1 ⟨rfl, hb⟩
      have HB1 := hide (HBW.out.trans (hb.mono HBW.out.size))
      clear HRW HBW hb
      go_wp2
      go_roundw
      case rel => exact ⟨k + 1, by omega, by omega, by go_num, HB1.out⟩
      case measure => simp [intOf]; omega
    · go_wp2
      go_ret
      exact ⟨rfl, HB.out.trans (hbw.mono (Nat.le_of_lt HS.out))⟩


set_option maxHeartbeats 400000 in
set_option maxRecDepth 20000 in
theorem before_any (a b : Nat → Nat) (la lb d : Nat) (w : World) (hla : la ≤ 256) (hlt : lb < la) (hd : d < lb) (hfa : ∀ j, a j < 256) (hfb : ∀ j, b j < 256)
    (HE : Hid (∀ i, i < d → bit a i = bit b i)) (HA : Hid (bit a d = 0)) (HBd : Hid (bit b d = 1)) :
    Calls Try.prog 11 #[.agg (A a).toArray, .int .i64 la, .agg (A b).toArray, .int .i64 lb] w fun e w' => e = .returned (.bool true) ∧ Below w.heap.size w w' := by
  have HX := hide (two_boxes w a b)
  have ht : (lb : Int) < (la : Int) := by omega
  go_enter Try.func11, Try.ntmps11
  go_wp2
  generalize (w.alloc (.cells (A a).toArray 22)).alloc (.cells (A b).toArray 22) = W at *
  go_loopw [10] (fun i wr => ∃ k : Nat, k ≤ d ∧ i = .int .i64 k ∧ Below W.heap.size W wr) (fun i _ => d - (intOf i).toNat)
  case atStart => exact ⟨0, Nat.zero_le _, rfl, Below.refl _ _⟩
  case round =>
    obtain ⟨k, hk, rfl, hbw⟩ := hrel
    have HR1 := hide (range_below hbw (by have := HX.out.2.2.2; omega) HX.out.1)
    have HBW := hide hbw
    clear hbw
    go_wp2_with ((with_reducible refine wpL_load 22 _ ?_); refine ⟨w.heap.size, 0, A a, _, rfl, by exact HR1.out, Try.underlying22, rfl, by rw [info22, A_length], ?_⟩)
    refine (zzBit_below a k _ (by omega) hfa).mono ?_
    rintro e wr1 ⟨rfl, hb⟩
    have HB1 := hide (HBW.out.trans (hb.mono HBW.out.size))
    have HR2 := hide (range_below HB1.out (by have := HX.out.2.2.2; omega) HX.out.2.1)
    clear HR1 HBW hb
    go_wp2_with ((with_reducible refine wpL_load 22 _ ?_); refine ⟨w.heap.size + 1, 0, A b, _, rfl, by exact HR2.out, Try.underlying22, rfl, by rw [info22, A_length], ?_⟩)
    refine (zzBit_below b k _ (by omega) hfb).mono ?_
    rintro e wr2 ⟨rfl, hb⟩
    have HB2 := hide (HB1.out.trans (hb.mono HB1.out.size))
    clear HR2 HB1 hb
    by_cases hkd : k < d
    · have hq : (((bit a k : Nat) : Int) != ((bit b k : Nat) : Int)) = false := by rw [HE.out k hkd]; simp
      go_wp2
      go_roundw
      case rel => exact ⟨k + 1, by omega, by go_num, HB2.out⟩
      case measure => simp [intOf]; omega
    · obtain rfl : k = d := by omega
      have hq : (((bit a k : Nat) : Int) != ((bit b k : Nat) : Int)) = true := by rw [HA.out, HBd.out]; rfl
      have hq0 : (((bit a k : Nat) : Int) == 0) = true := by rw [HA.out]; rfl
      go_wp2
      go_ret
      exact ⟨rfl, HX.out.2.2.1.trans (HB2.out.mono (by have := HX.out.2.2.2; omega))⟩

/-! an array of 32 bytes read out of memory, as one rule of the walk: for regions that draw their order -/
def rd22 (w : World) (b : Nat) : List Value := (List.range 32).map fun j => (w.cell? ⟨b, j, none⟩).getD undef
def ok22 (w : World) (b : Nat) : Prop := ∀ j, j < 32 → (w.cell? ⟨b, j, none⟩).isSome = true

theorem rd22_of {w : World} {b : Nat} {cs : List Value} (h : w.rangeAt b 0 cs) (hl : cs.length = 32) : rd22 w b = cs ∧ ok22 w b := by
  have hg : ∀ j, j < 32 → w.cell? ⟨b, j, none⟩ = cs[j]? := fun j hj => by
    have := h j _ (List.getElem?_eq_getElem (by omega))
    rw [Nat.zero_add] at this
    rw [this, List.getElem?_eq_getElem (by omega)]
  refine ⟨?_, fun j hj => by rw [hg j hj, List.getElem?_eq_getElem (by omega)]; rfl⟩
  apply List.ext_getElem?
  intro j
  unfold rd22
  by_cases hj : j < 32
  · rw [List.getElem?_map, List.getElem?_range hj, Option.map_some, hg j hj, List.getElem?_eq_getElem (by omega)]; rfl
  · rw [List.getElem?_eq_none (by simp; omega), List.getElem?_eq_none (by omega)]

theorem range_of_rd22 {w : World} {b : Nat} (h : ok22 w b) : w.rangeAt b 0 (rd22 w b) := by
  intro j v hv
  have hj : j < 32 := by have := (List.getElem?_eq_some_iff.1 hv).1; simpa [rd22] using this
  obtain ⟨u, hu⟩ := Option.isSome_iff_exists.1 (h j hj)
  unfold rd22 at hv
  rw [List.getElem?_map, List.getElem?_range hj, Option.map_some, hu] at hv
  rw [Nat.zero_add, hu]; exact hv

/-- the load of an array under a name that the walk does not open -/
def loadAt22 (v : Value) : Sem Value := Instr.loadAt 22 v
theorem exec_load22 (ρ : Operand → Value) (dst : Option Tmp) (x : Operand) (ty : TypeId) (pos : String) (after : Array Edge) (guard : Option (Nat × Bool)) :
    execOp ρ { dst := dst, op := .load 22 x, type := ty, pos := pos, after := after, guard := guard } = (do pure (.value (← loadAt22 (ρ x)))) := rfl
theorem run_load22 (w : World) (b : Nat) (h : ok22 w b) : (loadAt22 (.pointer (some ⟨b, 0, none⟩))).run Try.prog w = .ok (.agg (rd22 w b).toArray) w :=
  run_loadAt_mid w b 0 22 (rd22 w b) _ (range_of_rd22 h) Try.underlying22 rfl (by rw [info22]; simp [rd22])

attribute [local go_sem ↓] exec_load22 Go.wp_at_zero Go.wp_at_succ
attribute [local go_sem] run_load22

/-- two arrays below a mark -/
structure Two (W w : World) (g1 g2 : Nat) (b q : Nat → Nat) : Prop where
  r1 : rd22 w g1 = A b
  o1 : ok22 w g1
  r2 : rd22 w g2 = A q
  o2 : ok22 w g2
  bl : Below W.heap.size W w
theorem Two.next {W w w' : World} {g1 g2 : Nat} {b q : Nat → Nat} (h : Two W w g1 g2 b q) (hg1 : g1 < W.heap.size) (hg2 : g2 < W.heap.size) (hb : Below w.heap.size w w') : Two W w' g1 g2 b q := by
  have e1 := rd22_of (range_below hb (Nat.lt_of_lt_of_le hg1 h.bl.size) (range_of_rd22 h.o1)) (by simp [rd22])
  have e2 := rd22_of (range_below hb (Nat.lt_of_lt_of_le hg2 h.bl.size) (range_of_rd22 h.o2)) (by simp [rd22])
  exact ⟨e1.1.trans h.r1, e1.2, e2.1.trans h.r2, e2.2, h.bl.trans (hb.mono h.bl.size)⟩
theorem Two.step {W w w' : World} {g1 g2 : Nat} {b q : Nat → Nat} (hg1 : g1 < W.heap.size) (hg2 : g2 < W.heap.size) (hb : Below w.heap.size w w') (h : Hid (Two W w g1 g2 b q)) : Hid (Two W w' g1 g2 b q) := h.out.next hg1 hg2 hb
theorem Two.below {W w : World} {g1 g2 : Nat} {b q : Nat → Nat} (h : Hid (Two W w g1 g2 b q)) : Below W.heap.size W w := h.out.bl
theorem Two.drew {W w : World} {g1 g2 : Nat} {b q : Nat → Nat} (h : Two W w g1 g2 b q) : Two W w.drew g1 g2 b q := ⟨h.r1, h.o1, h.r2, h.o2, h.bl.drew⟩

set_option maxHeartbeats 400000 in
set_option maxRecDepth 20000 in
theorem holds_any (b q : Nat → Nat) (l : Nat) (v : Bool) (w : World) (hl : l ≤ 256) (hfb : ∀ j, b j < 256) (hfq : ∀ j, q j < 256) (HV : Hid (holdB b l q = v)) :
    Calls Try.prog 12 #[.agg (A b).toArray, .int .i64 l, .agg (A q).toArray] w fun e w' => e = .returned (.bool v) ∧ Below w.heap.size w w' := by
  have HX := hide (two_boxes w b q)
  go_enter Try.func12, Try.ntmps12
  go_wp2
  generalize (w.alloc (.cells (A b).toArray 22)).alloc (.cells (A q).toArray 22) = W at *
  have HT := hide (Two.mk (W := W) (w := W) (rd22_of HX.out.1 (A_length _)).1 (rd22_of HX.out.1 (A_length _)).2 (rd22_of HX.out.2.1 (A_length _)).1 (rd22_of HX.out.2.1 (A_length _)).2 (Below.refl _ _))
  have hg1 : w.heap.size < W.heap.size := by have := HX.out.2.2.2; omega
  have hg2 : w.heap.size + 1 < W.heap.size := by have := HX.out.2.2.2; omega
  go_loopw [7] (fun i wr => ∃ k : Nat, k ≤ l ∧ i = .int .i64 k ∧ (∀ i, i < k → bit b i = bit q i) ∧ Below W.heap.size W wr) (fun i _ => l - (intOf i).toNat)
  case atStart => exact ⟨0, Nat.zero_le _, rfl, fun i hi => absurd hi (Nat.not_lt_zero _), Below.refl _ _⟩
  case round =>
    obtain ⟨k, hk, rfl, hall, hbw⟩ := hrel
    have HALL := hide hall
    clear hall
    by_cases hkl : k < l
    · have HTW := hide ((HT.out.next hg1 hg2 hbw).drew)
      obtain ⟨s1, s2, s3, s4, _⟩ := HTW.out
      clear hbw
      by_cases heq : bit b k = bit q k
      · have hq : (((bit b k : Nat) : Int) != ((bit q k : Nat) : Int)) = false := by rw [heq]; simp
        have HEQ := hide heq
        clear heq
        go_wp2
        go_region_with (first | (go_at_call_of 7 (Value.agg (A b).toArray); refine (zzBit_below b k _ (by omega) hfb).mono ?_; rintro e w5 ⟨rfl, hb5⟩; have HTX := Two.step hg1 hg2 hb5 (by assumption); obtain ⟨t1, t2, t3, t4, _⟩ := HTX.out) | (go_at_call 7; refine (zzBit_below q k _ (by omega) hfq).mono ?_; rintro e w5 ⟨rfl, hb5⟩; have HTX := Two.step hg1 hg2 hb5 (by assumption); obtain ⟨t1, t2, t3, t4, _⟩ := HTX.out))
        all_goals go_wp2
        all_goals go_roundw
        all_goals first | exact ⟨k + 1, by omega, by go_num, fun i hi => (by by_cases h : i < k; exact HALL.out i h; obtain rfl : i = k := (by omega); exact HEQ.out), Two.below (by assumption)⟩ | (simp [intOf]; omega)
      · have hq : (((bit b k : Nat) : Int) != ((bit q k : Nat) : Int)) = true := by rw [bne_iff_ne]; omega
        obtain rfl : v = false := by rw [← HV.out]; exact decide_eq_false (fun h => heq (h k hkl))
        clear heq
        go_wp2
        go_region_with (first | (go_at_call_of 7 (Value.agg (A b).toArray); refine (zzBit_below b k _ (by omega) hfb).mono ?_; rintro e w5 ⟨rfl, hb5⟩; have HTX := Two.step hg1 hg2 hb5 (by assumption); obtain ⟨t1, t2, t3, t4, _⟩ := HTX.out) | (go_at_call 7; refine (zzBit_below q k _ (by omega) hfq).mono ?_; rintro e w5 ⟨rfl, hb5⟩; have HTX := Two.step hg1 hg2 hb5 (by assumption); obtain ⟨t1, t2, t3, t4, _⟩ := HTX.out))
        all_goals go_wp2
        all_goals go_ret
        all_goals exact ⟨rfl, HX.out.2.2.1.trans ((Two.below (by assumption)).mono (by have := HX.out.2.2.2; omega))⟩
    · obtain rfl : v = true := by rw [← HV.out]; exact decide_eq_true (fun i hi => HALL.out i (by omega))
      go_wp2
      go_ret
      exact ⟨rfl, HX.out.2.2.1.trans (hbw.mono (by have := HX.out.2.2.2; omega))⟩

end Go.Proofs.Qxb6630276a.Walks

import Derived.Test.Qxb6630276aWalks
import Derived.Laws.CopyOwn
import Derived.BigRegion
namespace Go.Proofs.Qxb6630276a.Walks
open Go.RowKit

theorem build26 (g : Nat → Nat) (n : Nat) (w : World) : (Instr.build 26 #[(0, .agg (A g).toArray), (1, .int .i64 (n : Int))]).run Try.prog w = .ok (.agg (pfx g n).toArray) w := by kernel_rfl

theorem info5s : (Try.prog.info? 5).map (·.size) = some 1 := by kernel_rfl

theorem range_of_row {w : World} {g t : Nat} {fr : Nat × Nat} (cs : List Value) (h : w.heap[g]? = some (.cells cs.toArray t fr)) : w.rangeAt g 0 cs := by
  intro j v hv
  rw [cell_of_row _ _ _ _ _ _ h, Nat.zero_add, List.getElem?_toArray]
  exact hv

theorem there_of_row {w : World} {g t : Nat} (C : Array Value) (h : w.heap[g]? = some (.cells C t (0, 0))) (n : Nat) (hn : n ≤ C.size) : w.there g 0 n := by
  intro j hj
  rw [cell_of_row _ _ _ _ _ _ h, frozen_of_row _ _ _ _ _ h]
  exact ⟨by simp; omega, rfl⟩

/-- the world as PrefixOf's boxes are laid -/
theorem boxes (f : Nat → Nat) (w : World) :
    (((w.alloc (.cells (A f).toArray 24)).alloc (.cells zero26 26)).alloc (.cells zero24 24)).heap[w.heap.size + 1 + 1]? = some (.cells zero24.toList.toArray 24 (0, 0)) ∧
    (((w.alloc (.cells (A f).toArray 24)).alloc (.cells zero26 26)).alloc (.cells zero24 24)).heap[w.heap.size]? = some (.cells (A f).toArray 24 (0, 0)) ∧
    (((w.alloc (.cells (A f).toArray 24)).alloc (.cells zero26 26)).alloc (.cells zero24 24)).heap[w.heap.size + 1]? = some (.cells zero26 26 (0, 0)) ∧
    Below w.heap.size w (((w.alloc (.cells (A f).toArray 24)).alloc (.cells zero26 26)).alloc (.cells zero24 24)) := by
  refine ⟨?_, ?_, ?_, (((Below.refl _ _).alloc (Nat.le_refl _) _).alloc (by simp) _).alloc (by simp; omega) _⟩
  · have := heap_alloc_new ((w.alloc (.cells (A f).toArray 24)).alloc (.cells zero26 26)) (.cells zero24 24)
    simpa using this
  · rw [Below.heap_alloc _ _ _ (by simp; omega)]; exact heap_alloc2_old w _ _
  · rw [Below.heap_alloc _ _ _ (by simp)]; exact heap_alloc2_new w _ _

set_option maxRecDepth 20000 in
set_option maxHeartbeats 1000000 in
theorem prefixOf_core (f g : Nat → Nat) (n : Nat) (w : World) (hn : n ≤ 256) (hf : ∀ j, f j < 256) (HG : Hid (cut f n = g)) :
    Calls Try.prog 5 #[.agg (A f).toArray, .int .i64 n] w fun e w' => e = .returned (.agg (pfx g n).toArray) ∧ Below w.heap.size w w' := by
  have i1 : (0 : Int) ≤ (n : Int) / 8 := by omega
  have i2 : (n : Int) / 8 ≤ 32 := by omega
  have i3 : IntKind.i64.wrap ((n : Int) / 8) = (n : Int) / 8 := IntWalk.i64_in _ ⟨by omega, by omega⟩
  have HX := hide (boxes f w)
  have hlen : ((A f).take (n / 8)).length = Nat.min ((n : Int) / 8).toNat ((n : Int) / 8).toNat := by rw [List.length_take, A_length]; show min (n / 8) 32 = min ((n : Int) / 8).toNat ((n : Int) / 8).toNat; omega
  have HLEN := hide hlen
  have hpos : ∀ W : World, W.heap[w.heap.size]? = some (.cells (A f).toArray 24 (0, 0)) → ∀ j v, ((A f).take (n / 8))[j]? = some v → W.cell? ((⟨w.heap.size, 0, none⟩ : Addr).add j) = some v := by
    intro W hW j v hv
    rw [Addr.add_mid, cell_of_row _ _ _ _ _ _ hW, Nat.zero_add, List.getElem?_toArray]
    rw [List.getElem?_take] at hv
    split at hv
    · exact hv
    · cases hv
  have HPOS := hide hpos
  clear hlen hpos
  go_enter Try.func5, Try.ntmps5
  go_wp2_with (first | ((with_reducible refine wpL_alloc 26 ?_); refine ⟨zero26, w.heap.size + 1, zinfo26, by simp, ?_⟩) | ((with_reducible refine wpL_alloc 24 ?_); refine ⟨zero24, w.heap.size + 1 + 1, zinfo24, by simp, ?_⟩))
  go_region_held3 (fun _ => True) (trivial)
    ((refine step_copy_splice (by rfl) (.tmp 8) (.tmp 11) 36 36 (by rfl) 5 Try.underlying36 info5s (some ⟨w.heap.size + 1 + 1, 0, none⟩) (some ⟨w.heap.size, 0, none⟩) ((n : Int) / 8).toNat 32 ((n : Int) / 8).toNat 32 (by rfl) (by rfl) (w.heap.size + 1 + 1) 0 zero24.toList 24 (by exact HX.out.1) ((A f).take (n / 8)) HLEN.out (fun _ => ⟨rfl, _, rfl, by exact HPOS.out _ HX.out.2.1⟩) (by rw [List.length_take, A_length, zero24_len]; omega) (fun v hv => A_one f v (List.mem_of_mem_take hv)) (w.heap.size + 1 + 1) _ (Below.refl _ _) (Nat.le_refl _) ?_; intro w2 HG2 hB2))
  have h1 : w2.heap[w.heap.size + 1]? = some (.cells zero26 26 (0, 0)) := by rw [hB2.block (w.heap.size + 1) (by omega)]; exact HX.out.2.2.1
  have h0 : w2.heap[w.heap.size]? = some (.cells (A f).toArray 24 (0, 0)) := by rw [hB2.block w.heap.size (by omega)]; exact HX.out.2.1
  have hb : Below w.heap.size w w2 := HX.out.2.2.2.drew.trans (hB2.mono (show w.heap.size ≤ w.heap.size + 1 + 1 by omega))
  have hth : w2.there (w.heap.size + 1) 0 33 := there_of_row zero26 h1 33 (by rw [zero26_size]; omega)
  have HB := hide hb
  have HTH := hide hth
  have H0 := hide h0
  clear h1 h0 hb hth hB2 HX HPOS HLEN
  by_cases h8 : n % 8 < 1
  · have hr : w2.rangeAt (w.heap.size + 1 + 1) 0 (A g) := range_of_row _ (by have := HG2.out; rw [copied_whole f n hn hf (by omega), HG.out] at this; exact this)
    have HR := hide hr
    clear hr HG2
    go_wp2_with (first | ((with_reducible refine wpL_load 24 _ ?_); refine ⟨w.heap.size + 1 + 1, 0, A g, _, rfl, by exact HR.out, Try.underlying24, rfl, by rw [info24, A_length], ?_⟩) | ((with_reducible refine wpL_build 26 _ ?_); refine ⟨_, _, by simp only [List.map_toArray, List.map_cons, List.map_nil]; rfl, build26 g n _, ?_⟩) | ((with_reducible refine wpL_store 26 _ _ ?_); refine ⟨w.heap.size + 1, 0, (pfx g n).toArray, rfl, rfl, by rw [pfx_size]; exact HTH.out, by rw [info26, pfx_size], pfx_all _ _, ?_⟩))
    refine bodyPost_ret (v := .agg (pfx g n).toArray) ?r1 ?r2 ?r3
    case r1 => exact results_mid Try.results5 _ _ (w.heap.size + 1) (pfx g n) _ (by rfl) (World.rangeAt_setCells_same _ _ _ _ (by rw [pfx_length]; exact HTH.out)) Try.underlying26 rfl (by rw [info26, pfx_length])
    case r2 => rfl
    exact ⟨rfl, below_setCells HB.out _ _ (by omega) _⟩
  · have hc0 : w2.cell? ⟨w.heap.size, n / 8, none⟩ = some (.int .u8 (f (n / 8))) := by rw [cell_of_row _ _ _ _ _ _ H0.out, List.getElem?_toArray, A_get f _ (by omega)]
    have hc2 : w2.cell? ⟨w.heap.size + 1 + 1, n / 8, none⟩ = some (.int .u8 0) := by
      rw [cell_of_row _ _ _ _ _ _ HG2.out, List.getElem?_toArray, splice_get, if_neg (by rw [List.length_take, A_length]; omega), zero24_get _ (by omega)]
    have hf2 : w2.frozen? ⟨w.heap.size + 1 + 1, n / 8, none⟩ = false := frozen_of_row _ _ _ _ _ HG2.out
    have i4 : (n : Int) / 8 < 32 := by omega
    have hr : (w2.setCell ⟨w.heap.size + 1 + 1, n / 8, none⟩ (.int .u8 (bits .andNot .u8 (f (n / 8) : Int) (255 / 2 ^ (n % 8))))).rangeAt (w.heap.size + 1 + 1) 0 (A g) := by
      have e := heap_setCell_same w2 _ (n / 8) _ _ (.int .u8 (bits .andNot .u8 (f (n / 8) : Int) (255 / 2 ^ (n % 8)))) HG2.out
      rw [List.setIfInBounds_toArray, copied_set f n hn hf, HG.out] at e
      exact range_of_row _ e
    have ht : (w2.setCell ⟨w.heap.size + 1 + 1, n / 8, none⟩ (.int .u8 (bits .andNot .u8 (f (n / 8) : Int) (255 / 2 ^ (n % 8))))).there (w.heap.size + 1) 0 33 := by
      intro j hj
      rw [World.cell?_setCell_other _ _ _ _ (by simp), World.frozen?_setCell]
      exact HTH.out j hj
    have HR := hide ((World.rangeAt_drew _ _ _ _).2 hr)
    have HT := hide ((World.there_drew _ _ _ _).2 ht)
    clear hr ht HG2 HTH H0
    go_wp2
    go_region
    go_wp2_with (first | ((with_reducible refine wpL_load 24 _ ?_); refine ⟨w.heap.size + 1 + 1, 0, A g, _, rfl, by exact HR.out, Try.underlying24, rfl, by rw [info24, A_length], ?_⟩) | ((with_reducible refine wpL_build 26 _ ?_); refine ⟨_, _, by simp only [List.map_toArray, List.map_cons, List.map_nil]; rfl, build26 g n _, ?_⟩) | ((with_reducible refine wpL_store 26 _ _ ?_); refine ⟨w.heap.size + 1, 0, (pfx g n).toArray, rfl, rfl, by rw [pfx_size]; exact HT.out, by rw [info26, pfx_size], pfx_all _ _, ?_⟩))
    refine bodyPost_ret (v := .agg (pfx g n).toArray) ?s1 ?s2 ?s3
    case s1 => exact results_mid Try.results5 _ _ (w.heap.size + 1) (pfx g n) _ (by rfl) (World.rangeAt_setCells_same _ _ _ _ (by rw [pfx_length]; exact HT.out)) Try.underlying26 rfl (by rw [info26, pfx_length])
    case s2 => rfl
    exact ⟨rfl, below_setCells (HB.out.setCell (by simp; omega) _).drew _ _ (by omega) _⟩

theorem prefixOf_any (f : Nat → Nat) (n : Nat) (w : World) (hn : n ≤ 256) (hf : ∀ j, f j < 256) :
    Calls Try.prog 5 #[.agg (A f).toArray, .int .i64 n] w fun e w' => e = .returned (.agg (pfx (cut f n) n).toArray) ∧ Below w.heap.size w w' :=
  prefixOf_core f (cut f n) n w hn hf rfl

end Go.Proofs.Qxb6630276a.Walks

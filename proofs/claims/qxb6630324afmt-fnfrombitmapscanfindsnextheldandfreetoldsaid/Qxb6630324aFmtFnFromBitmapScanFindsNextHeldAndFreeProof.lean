import Derived.Test.Qxb6630324aFmtLawB
import Derived.Test.Qxb6630324aFmtRows
import Derived.Test.Qxb6630324aFmtCards
import Derived.Test.Qxb6630324aFmtTie
import Derived.Lib.LaidTab
import Derived.Lib.LaidIn
import Derived.SevenTiedAt
import Derived.WalkKit
import Derived.ProofKit
import Derived.OpenShut
import Derived.ChangeOld
import Derived.Below
import Derived.Stop.JoinedAt
import Derived.Stop.Texts
import Derived.Stop.JoinedTold
import Derived.SevenToldRow
import Derived.SizedLaws
namespace Go.Proofs.Qxb6630324aFmt.fnFromBitmapScanFindsNextHeldAndFree
open Go.ChangeShapes Go.WideShapes Go.ChangeAt Go.RowKit
open Go.Extern.Stop Go.Stop Go.Extern

theorem own : ownKnob Tryf.prog.godebug = none := by kernel_rfl
theorem laidOut : laidOutB Tryf.prog = true := by kernel_rfl

def IsRow (k : IntKind) (w : World) (a : Option Addr) (len cap : Nat) (zs : List Int) : Prop :=
  (a = none ∧ len = 0 ∧ cap = 0 ∧ zs = []) ∨
  ∃ x, a = some x ∧ len ≤ cap ∧ cap ≤ maxLen ∧ zs.length = cap ∧ (∀ i, i < zs.length → w.cell? (x.add i) = some (.int k (zs.getD i 0))) ∧ ∀ n ∈ zs, (Lit.int k n).wf = true

theorem gT : Tryf.prog.globalNamed "math/bits.deBruijn64tab" = some 0 := by kernel_rfl
theorem gTType : (Tryf.prog.globals[0]?).map (·.type) = some 41 := by kernel_rfl

/-- THE WITNESS: the settled world, the table laid. -/
noncomputable def laidWorld (os : Os) : World :=
  let w0 := World.holding Tryf.prog os ⟨#[], #[], []⟩
  { w0 with heap := w0.heap.modify 0 fun
      | .cells _ t frozen => .cells (Lib.deBruijn64tab.map fun z : Nat => Value.int .u8 (z : Int)).toArray t frozen
      | o => o }

theorem laid_met (os : Os) (args : Array Value) : laidMet Tryf.prog Rows.fnFromBitmapScanFindsNextHeldAndFreeRow.laid ((laidWorld os).forCall (fun _ _ => 0) ⟨#[], args, []⟩).memory :=
  (LaidIn.of_run [0] 8 (by kernel_rfl) (by kernel_rfl) (by kernel_rfl) (by kernel_rfl)).met

open Go.Proofs.Qxb6630324aFmt.Walks in
set_option maxHeartbeats 400000 in
theorem walk (a0 : Option Addr) (len0 cap0 : Nat) (z0 : List Int) (w : World) (w0 : IsRow .u64 w a0 len0 cap0 z0) (ht : TabAt 0 Lib.deBruijn64tab w) (h0 : 0 < w.heap.size) :
    Calls Tryf.prog 4 #[.slice a0 len0 cap0] w fun e w' => e = .returned (.bool true) ∧ Below w.heap.size w w' := by
  have hlen : len0 ≤ 9223372036854775807 := by
    rcases w0 with ⟨_, rfl, _⟩ | ⟨x, _, h1, h2, _⟩
    · omega
    · unfold maxLen at h2; omega
  by_cases hbig : len0 ≤ 65536
  · have hin : ∀ i, i < len0 → 0 ≤ z0.getD i 0 ∧ z0.getD i 0 < 18446744073709551616 := by
      intro i hi
      rcases w0 with ⟨_, rfl, _⟩ | ⟨x, _, h1, _, hl, _, hwf⟩
      · omega
      · have hil : i < z0.length := by omega
        have he : z0.getD i 0 = z0[i] := by simp [List.getD, hil]
        have hm := hwf z0[i] (List.getElem_mem _)
        rw [he]
        generalize z0[i] = y at hm
        simp [Lit.wf, IntKind.min, IntKind.max, IntKind.bits, IntKind.signed] at hm
        omega
    refine lawB (fun i => if i < len0 then (z0.getD i 0).toNat else 0) a0 len0 cap0 w hbig ?_ ?_ ?_ ht h0
    · intro j
      show (if j < len0 then (z0.getD j 0).toNat else 0) < _
      by_cases hj : j < len0
      · rw [if_pos hj]; have := hin j hj; omega
      · rw [if_neg hj]; omega
    · intro j hj
      rcases w0 with ⟨_, rfl, _⟩ | ⟨x, rfl, h1, _, hl, hcell, _⟩
      · omega
      · have hc := hcell j (by omega)
        refine ⟨x, rfl, ?_, ?_⟩
        · have hb := block_lt_of_cell hc
          rw [add_block] at hb; exact hb
        · rw [hc]
          show _ = some (Value.int .u64 (((if j < len0 then (z0.getD j 0).toNat else 0) : Nat) : Int))
          rw [if_pos hj]
          have := (hin j hj).1
          rw [Int.toNat_of_nonneg this]
    · intro hnone
      rcases w0 with ⟨_, rfl, _⟩ | ⟨x, rfl, _⟩
      · rfl
      · cases hnone
  · by_cases h20 : len0 ≤ 1048576
    · clear w0 ht
      go_enter Tryf.func4, Tryf.ntmps4
      go_wp2_with fail
      refine (bytes12 a0 len0 cap0 w h20).mono ?_
      rintro e w1 ⟨rfl, rfl⟩
      go_wp2
      go_ret
      exact ⟨rfl, Below.refl _ _⟩
    · clear w0 ht
      go_enter Tryf.func4, Tryf.ntmps4
      go_wp2_with fail
      refine (bytes12_big a0 len0 cap0 w h20 hlen).mono ?_
      rintro e w1 ⟨rfl, rfl⟩
      go_wp2
      go_ret
      exact ⟨rfl, Below.refl _ _⟩

set_option maxRecDepth 100000 in
theorem lifted (os : Os) (started : os.Started) (H : Type) (enc : TypeId × Value → H) :
    ReturnsInTold none {} Tryf.checked os 4 .any Input.okWide ((OpenSpec.ofChange Rows.fnFromBitmapScanFindsNextHeldAndFreeSpec).preRow enc Tryf.prog Tryf.f4 [] false Rows.fnFromBitmapScanFindsNextHeldAndFreeRow.laid) (fun F => ((OpenSpec.ofChange Rows.fnFromBitmapScanFindsNextHeldAndFreeSpec).at F).post enc Tryf.prog Tryf.f4 false true false false) (aloneAtReturn Tryf.prog) nothingAlways := by
  refine returnsInTold_of_row (C := Tryf.checked) (s := (OpenSpec.ofChange Rows.fnFromBitmapScanFindsNextHeldAndFreeSpec)) (by kernel_rfl) own started (by kernel_rfl) Tryf.func4
    (OpenSpec.witness_stopped_at (enc := enc) (C := Tryf.checked) false (laidWorld os) #[.slice none 0 0] rfl (by kernel_rfl) (by kernel_rfl) (by kernel_rfl)
      (OpenSpec.preRow_of_B rfl 8 (by kernel_rfl) (by kernel_rfl) (laid_met os _))) ?_
  intro F W base args ds gs before _ hF hval0 hW _ _ _ hL _
  have hval : ∀ (j : Nat) t v, Tryf.f4.params[j]? = some t → args[j]? = some v → Value.okWide Tryf.prog W .any base t v := hval0
  have hW' := hW
  obtain ⟨p, q, hA0, hV, rfl, _, _⟩ := hW
  have hA : DataW.TrodAll enc Tryf.prog W 0 (fun _ => true) true Tryf.f4.params.toList args.toList ds p := hA0
  rw [Tryf.params4] at hA hval
  obtain ⟨v0, d0, rfl, rfl, h0⟩ := trodAll_one hA
  obtain ⟨rfl, rfl⟩ := trodVars_none hV
  obtain ⟨a0, len0, cap0, rfl⟩ := okWide_slice Tryf.underlying22 (hval 0 22 v0 rfl rfl)
  have k0 := h0
  have lt0 : ∀ x ∈ p, x.block < W.heap.size := by obtain ⟨m, hm⟩ := k0; exact DataW.trod_lt m _ _ _ hm
  obtain ⟨z0, w0⟩ : ∃ zs, IsRow .u64 W a0 len0 cap0 zs := by
    obtain ⟨fuel, hf⟩ := h0
    rcases open_ints Tryf.underlying22 Tryf.underlying24 (by kernel_rfl) hf with ⟨hcs, _⟩ | ⟨x, l, c, zs, hcs, _, hl, hm, hz, _, hcell, hwz⟩
    · simp [Value.cells] at hcs
      obtain ⟨rfl, rfl, rfl⟩ := hcs
      exact ⟨[], .inl ⟨rfl, rfl, rfl, rfl⟩⟩
    · simp [Value.cells] at hcs
      obtain ⟨rfl, rfl, rfl⟩ := hcs
      exact ⟨zs, .inr ⟨_, rfl, hl, hm, by simpa using hz, hcell, hwz⟩⟩
  clear hA0 hval0
  have htab : Lib.TabIs Tryf.prog W "math/bits.deBruijn64tab" .u8 (Lib.deBruijn64tab.map fun z : Nat => (z : Int)) := Lib.tabIs_of_head gT gTType Tryf.underlying41 Tryf.underlying5 (by kernel_rfl) (by kernel_rfl) hL
  have hcellT : TabAt 0 Lib.deBruijn64tab W := by
    intro j hj
    rw [htab.cell gT j (by simpa using hj)]
    simp [List.getD, hj]
  have h0lt : 0 < W.heap.size := block_lt_of_cell (hcellT 0 (by decide))
  refine (walk a0 len0 cap0 z0 W w0 hcellT h0lt).mono fun e W' ⟨he, bel⟩ => ?_
  subst he
  exact ⟨_, rfl, _, _, _, [], _, [], hW', trodAll_mk1 (shut_bool Tryf.underlying4 _), (trodAll_mk1 (Below.trod laidOut (by kernel_rfl) (of_decide_eq_true (by kernel_rfl)) k0 bel lt0)), rfl, bel.frame _, fun h => by cases h⟩

theorem laidOutP : laidOutB Tryf.pinned.checked.prog = true := by kernel_rfl
theorem stops : Tryf.pinned.checked.prog.stops = ["fmt.Sprintf"] := by kernel_rfl
theorem stopKnobs : Tryf.pinned.checked.prog.stopKnobs = [] := by kernel_rfl
theorem quiet (os : Os) : Stop.quiet Tryf.pinned.checked.prog os := by
  intro k hk
  rw [stopKnobs] at hk
  cases hk

theorem proved : Rows.FnFromBitmapScanFindsNextHeldAndFreeToldSaid :=
  Claim7.holds_of_told_tied_any_at .later 4 Tryf.f4 "fmt.Sprintf" [] [] _ _ _ [.data] true (by kernel_rfl) rfl rfl rfl laidOutP (by kernel_rfl) rfl ⟨rfl, rfl, rfl, rfl, rfl, rfl, rfl⟩ rfl rfl (by kernel_rfl) (by kernel_rfl) Tryf.func4 (by kernel_rfl)
    (of_decide_eq_true (by kernel_rfl)) (of_decide_eq_true (by kernel_rfl)) stops.symm rfl stopKnobs.symm (by kernel_rfl)
    (by kernel_rfl) (by kernel_rfl) (by kernel_rfl) (by kernel_rfl) (by kernel_rfl) (by kernel_rfl) (by kernel_rfl) (by kernel_rfl) (by kernel_rfl) rfl (by kernel_rfl) rfl rfl
    rfl rfl
    rfl (by kernel_rfl) (by kernel_rfl) (by kernel_rfl) (by decide) (by kernel_rfl) fnFromBitmapScanFindsNextHeldAndFree_row_tie
    (OpenClaim.moreEntering_of (by kernel_rfl) (by kernel_rfl) (by kernel_rfl) (by kernel_rfl) (by kernel_rfl) (by kernel_rfl) (by kernel_rfl) (by kernel_rfl) (by kernel_rfl) (by kernel_rfl))
    ⟨_, WideRow.started_initial, quiet _⟩
    (fun os started _ H enc _ => lifted os started H enc)
end Go.Proofs.Qxb6630324aFmt.fnFromBitmapScanFindsNextHeldAndFree

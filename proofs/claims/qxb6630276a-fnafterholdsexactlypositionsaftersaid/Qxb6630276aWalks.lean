import Derived.Test.Qxb6630276aChecked
import Derived.WalkKit
import Derived.ProofKit
import Derived.WalkSpells
import Derived.Deep.RegionHeld3
import Derived.Deep.MidRow
import Derived.Outline
import Derived.Test.Qxb6630276aDefs
namespace Go.Proofs.Qxb6630276a.Walks
open Go.RowKit

set_option maxHeartbeats 400000 in
theorem zzBit_any (f : Nat → Nat) (i : Nat) (w : World) (hi : i < 256) (hf : ∀ j, f j < 256) :
    Calls Try.prog 7 #[.agg (A f).toArray, .int .i64 i] w fun e w' => e = .returned (.int .i64 (bit f i)) ∧ w' = w.alloc (.cells (A f).toArray 22) := by
  have hg := A_get f (i / 8) (by omega)
  go_enter Try.func7, Try.ntmps7
  go_wp2
  go_ret
  exact ⟨ret_int (bit_num f i (hf _)), rfl⟩

set_option maxHeartbeats 400000 in
theorem posBit_any (f : Nat → Nat) (i : Nat) (w : World) (hi : i < 256) (hf : ∀ j, f j < 256) :
    Calls Try.prog 16 #[.agg (A f).toArray, .int .i64 i] w fun e w' => e = .returned (.int .i64 (bit f i)) ∧ w' = w.alloc (.cells (A f).toArray 24) := by
  have hg := A_get f (i / 8) (by omega)
  go_enter Try.func16, Try.ntmps16
  go_wp2
  go_ret
  exact ⟨ret_int (bit_num f i (hf _)), rfl⟩

/-! laws that are met by their text alone: 'with_reducible refine wpL_.. ?_' fails at once at any other operation -/
theorem wpL_load {P : Program} {ops : Array Oper} {rest : List Oper} {dst : Option Tmp} {t : TypeId} {pos : String} {after : Array Edge} {a : Act} {w : World} {Q : Exit → Act → World → Prop} (ty : TypeId) (x : Operand)
    (h : ∃ b o cs d, a.eval x = .pointer (some ⟨b, o, none⟩) ∧ w.rangeAt b o cs ∧ P.underlying ty = some d ∧ d.isRow = true ∧ (P.info? ty).map (·.size) = some cs.length ∧ wpList P ops Q rest (a.put dst (.agg cs.toArray)) w) :
    wpList P ops Q ({ dst := dst, op := .load ty x, type := t, pos := pos, after := after, guard := none } :: rest) a w := by
  obtain ⟨b, o, cs, d, hx, hc, hu, hd, hi, h⟩ := h
  exact wpList_load_mid rfl ty x rfl b o hx cs d hc hu hd hi h

theorem wpL_load_g {P : Program} {ops : Array Oper} {rest : List Oper} {dst : Option Tmp} {t : TypeId} {pos : String} {after : Array Edge} {gd : Option (Nat × Bool)} {a : Act} {w : World} {Q : Exit → Act → World → Prop} (ty : TypeId) (x : Operand)
    (h : Region.wanted { dst := dst, op := .load ty x, type := t, pos := pos, after := after, guard := gd } (yielded ops a.tmps) = true ∧ ∃ b o cs d, a.eval x = .pointer (some ⟨b, o, none⟩) ∧ w.rangeAt b o cs ∧ P.underlying ty = some d ∧ d.isRow = true ∧ (P.info? ty).map (·.size) = some cs.length ∧ wpList P ops Q rest (a.put dst (.agg cs.toArray)) w) :
    wpList P ops Q ({ dst := dst, op := .load ty x, type := t, pos := pos, after := after, guard := gd } :: rest) a w := by
  obtain ⟨hw, b, o, cs, d, hx, hc, hu, hd, hi, h⟩ := h
  exact BigFrame.wpList_want hw fun _ hK => wp_load_mid ty x rfl b o hx cs d hc hu hd hi (hK _ _ h)

theorem wpL_store {P : Program} {ops : Array Oper} {rest : List Oper} {dst : Option Tmp} {t : TypeId} {pos : String} {after : Array Edge} {a : Act} {w : World} {Q : Exit → Act → World → Prop} (ty : TypeId) (x y : Operand)
    (h : ∃ b o cells, a.eval x = .pointer (some ⟨b, o, none⟩) ∧ a.eval y = .agg cells ∧ w.there b o cells.size ∧ (P.info? ty).map (·.size) = some cells.size ∧ cells.all (·.oneCell') = true ∧ wpList P ops Q rest (a.put dst undef) (w.setCells b o cells.toList)) :
    wpList P ops Q ({ dst := dst, op := .store ty x y, type := t, pos := pos, after := after, guard := none } :: rest) a w := by
  obtain ⟨b, o, cells, hx, hy, ht, hi, h1, h⟩ := h
  exact wpList_store_mid rfl ty x y rfl b o cells hx hy ht hi h1 h

/-- 'var b T', T an array or a struct: a new block that holds the zero value -/
theorem wpL_alloc {P : Program} {ops : Array Oper} {rest : List Oper} {dst : Option Tmp} {ty : TypeId} {pos : String} {after : Array Edge} {a : Act} {w : World} {Q : Exit → Act → World → Prop} (t : TypeId)
    (h : ∃ Z B, (P.info? t).map (·.zero) = some (some (.agg Z)) ∧ w.heap.size = B ∧ wpList P ops Q rest (a.put dst (.pointer (some ⟨B, 0, none⟩))) (w.alloc (.cells Z t))) :
    wpList P ops Q ({ dst := dst, op := .alloc t, type := ty, pos := pos, after := after, guard := none } :: rest) a w := by
  obtain ⟨Z, B, hz, rfl, h⟩ := h
  refine wpList_plain rfl fun K hK => ?_
  cases hq : P.info? t with
  | none => simp [hq] at hz
  | some i =>
    have hs : i.zero = some (.agg Z) := by simpa [hq] using hz
    unfold Oper.wp execOp
    simp [Instr.alloc, zeroValue, typeInfo, hq, hs, newVar, newRow, Value.cells, go_sem]
    exact hK _ _ h

theorem wpL_build {P : Program} {ops : Array Oper} {rest : List Oper} {dst : Option Tmp} {ty : TypeId} {pos : String} {after : Array Edge} {a : Act} {w : World} {Q : Exit → Act → World → Prop} (t : TypeId) (parts : Array (Nat × Operand))
    (h : ∃ ps v, (parts.map fun (i, x) => (i, a.eval x)) = ps ∧ (Instr.build t ps).run P w = .ok v w ∧ wpList P ops Q rest (a.put dst v) w) :
    wpList P ops Q ({ dst := dst, op := .build t parts, type := ty, pos := pos, after := after, guard := none } :: rest) a w := by
  obtain ⟨ps, v, rfl, hr, h⟩ := h
  refine wpList_plain rfl fun K hK => ?_
  unfold Oper.wp execOp
  simp only [Sem.run_bind, hr, Result.andThen_ok, Sem.run_pure]
  exact hK _ _ h

theorem wpL_buildSlice {P : Program} {ops : Array Oper} {rest : List Oper} {dst : Option Tmp} {ty : TypeId} {pos : String} {after : Array Edge} {a : Act} {w : World} {Q : Exit → Act → World → Prop} (t : TypeId) (len : Nat) (parts : Array (Nat × Operand))
    (h : ∃ ps v w', (parts.map fun (i, x) => (i, a.eval x)) = ps ∧ (Instr.buildSlice t len ps).run P w = .ok v w' ∧ wpList P ops Q rest (a.put dst v) w') :
    wpList P ops Q ({ dst := dst, op := .buildSlice t len parts, type := ty, pos := pos, after := after, guard := none } :: rest) a w := by
  obtain ⟨ps, v, w', rfl, hr, h⟩ := h
  refine wpList_plain rfl fun K hK => ?_
  unfold Oper.wp execOp
  simp only [Sem.run_bind, hr, Result.andThen_ok, Sem.run_pure]
  exact hK _ _ h

theorem info24 : (Try.prog.info? 24).map (·.size) = some 32 := by kernel_rfl
theorem info22 : (Try.prog.info? 22).map (·.size) = some 32 := by kernel_rfl
theorem info26 : (Try.prog.info? 26).map (·.size) = some 33 := by kernel_rfl

/-- the bytes of a Prefix that lies in a box of its own -/
theorem range_bytes (w : World) (f : Nat → Nat) (n t : Nat) : (w.alloc (.cells (pfx f n).toArray t)).rangeAt w.heap.size 0 (A f) := by
  intro j v hv
  have hj : j < 32 := by have := (List.getElem?_eq_some_iff.1 hv).1; rw [A_length] at this; exact this
  rw [cell_of_row _ _ _ _ _ _ (heap_alloc_new w _), Nat.zero_add, List.getElem?_toArray, pfx_get f n j hj]
  rw [A_get f j hj] at hv; exact hv

set_option maxHeartbeats 400000 in
theorem pBit_any (f : Nat → Nat) (n i : Nat) (w : World) (hi : i < 256) (hf : ∀ j, f j < 256) :
    Calls Try.prog 14 #[.agg (pfx f n).toArray, .int .i64 i] w fun e w' => e = .returned (.int .i64 (bit f i)) ∧ w' = (w.alloc (.cells (pfx f n).toArray 26)).alloc (.cells (A f).toArray 24) := by
  go_enter Try.func14, Try.ntmps14
  go_wp2_with (first | (go_at_call 16; refine (posBit_any _ _ _ hi hf).mono ?_; rintro e w' ⟨rfl, rfl⟩) | ((with_reducible refine wpL_load 24 _ ?_); refine ⟨w.heap.size, 0, A f, _, rfl, range_bytes w f n 26, Try.underlying24, rfl, by rw [info24, A_length], ?_⟩))
  go_ret
  exact ⟨rfl, rfl⟩

set_option maxHeartbeats 400000 in
theorem pLen_any (f : Nat → Nat) (n : Nat) (w : World) :
    Calls Try.prog 9 #[.agg (pfx f n).toArray] w fun e w' => e = .returned (.int .i64 n) ∧ w' = w.alloc (.cells (pfx f n).toArray 26) := by
  have hg := pfx_last f n
  go_enter Try.func9, Try.ntmps9
  go_wp2
  go_ret
  exact ⟨rfl, rfl⟩


/-- a result that lies in a box: its cells -/
theorem results_mid {P : Program} {fn : Func} {p : Tmp} {ty : TypeId} (h : fn.results = #[.cell p ty]) (tmps : Array Value) (w : World) (g : Nat) (cs : List Value) (d : TypeDesc)
    (hp : tmps.getD p undef = .pointer (some ⟨g, 0, none⟩)) (hc : w.rangeAt g 0 cs)
    (hu : P.underlying ty = some d) (hd : d.isRow = true) (hi : (P.info? ty).map (·.size) = some cs.length) :
    (results fn tmps).run P w = .ok (.agg cs.toArray) w := by
  have hp' : tmps[p]?.getD undef = .pointer (some ⟨g, 0, none⟩) := by simpa using hp
  simp [results, h, hp', asAddr, run_loadVar_mid w g 0 ty cs d hc hu hd hi]

/-- a new block of n cells is there -/
theorem there_new (w : World) (C : Array Value) (t n : Nat) (h : n ≤ C.size) : (w.alloc (.cells C t)).there w.heap.size 0 n := by
  intro j hj
  rw [cell_of_row _ _ _ _ _ _ (heap_alloc_new w _), frozen_of_row _ _ _ _ _ (heap_alloc_new w _)]
  exact ⟨by simp; omega, rfl⟩

theorem below_setCells {B : Nat} {w w' : World} (h : Below B w w') (b o : Nat) (hb : B ≤ b) : ∀ vs, Below B w (w'.setCells b o vs) := by
  intro vs
  induction vs generalizing o w' with
  | nil => exact h
  | cons v r ih => rw [World.setCells]; exact ih (h.setCell (by exact hb) v) _

theorem zinfo24 : (Try.prog.info? 24).map (·.zero) = some (some (.agg zero24)) := by kernel_rfl
theorem zinfo26 : (Try.prog.info? 26).map (·.zero) = some (some (.agg zero26)) := by kernel_rfl
theorem zero24_size : zero24.size = 32 := by kernel_rfl
theorem zero26_size : zero26.size = 33 := by kernel_rfl

theorem A_all (f : Nat → Nat) : ((A f).toArray.all fun x => x.oneCell') = true := all_oneCell_toArray (A_one f)
theorem pfx_all (f : Nat → Nat) (n : Nat) : ((pfx f n).toArray.all fun x => x.oneCell') = true := all_oneCell_toArray (pfx_one f n)

set_option maxHeartbeats 400000 in
theorem pBits_any (f : Nat → Nat) (n : Nat) (w : World) :
    Calls Try.prog 8 #[.agg (pfx f n).toArray] w fun e w' => e = .returned (.agg (A f).toArray) ∧ Below w.heap.size w w' := by
  have hr := range_bytes w f n 26
  have hth : ((w.alloc (.cells (pfx f n).toArray 26)).alloc (.cells zero24 24)).there (w.heap.size + 1) 0 32 := by
    have := there_new (w.alloc (.cells (pfx f n).toArray 26)) zero24 24 32 (by rw [zero24_size]; omega)
    simpa using this
  go_enter Try.func8, Try.ntmps8
  go_wp2_with (first | ((with_reducible refine wpL_alloc 24 ?_); refine ⟨zero24, w.heap.size + 1, zinfo24, by simp, ?_⟩) | ((with_reducible refine wpL_load 24 _ ?_); refine ⟨w.heap.size, 0, A f, _, rfl, World.rangeAt_alloc hr _, Try.underlying24, rfl, by rw [info24, A_length], ?_⟩) | ((with_reducible refine wpL_store 24 _ _ ?_); refine ⟨w.heap.size + 1, 0, (A f).toArray, rfl, rfl, by rw [A_size]; exact hth, by rw [info24, A_size], A_all f, ?_⟩))
  refine bodyPost_ret (v := .agg (A f).toArray) ?r1 ?r2 ?r3
  case r1 => exact results_mid Try.results8 _ _ (w.heap.size + 1) (A f) _ (by rfl) (World.rangeAt_setCells_same _ _ _ _ (by rw [A_length]; exact hth)) Try.underlying24 rfl (by rw [info24, A_length])
  case r2 => rfl
  refine ⟨rfl, ?_⟩
  exact below_setCells (((Below.refl _ _).alloc (Nat.le_refl _) _).alloc (by simp) _) _ _ (by omega) _

end Go.Proofs.Qxb6630276a.Walks

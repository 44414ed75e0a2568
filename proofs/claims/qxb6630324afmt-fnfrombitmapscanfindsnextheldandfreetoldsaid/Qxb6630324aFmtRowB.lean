import Derived.Test.Qxb6630324aFmtScanF
import Derived.OwnWalk
import Derived.Laws.CopyOwn
import Derived.Laws.Cover3
import Derived.Deep.Cut
import Derived.Deep.CutRange
namespace Go.Proofs.Qxb6630324aFmt.Walks
open Go.RowKit

attribute [local irreducible] bitW wd Lib.ctz Lib.deBruijn64tab NS NC

theorem RowAt.heap {k : IntKind} {e : TypeId} {v : Nat → Int} {g n : Nat} {w : World} (h : RowAt k e v g n w) : w.heap[g]? = some (.cells (rowF k v n).toArray e (0, 0)) := by
  rcases h.2 with ⟨h', _⟩ | ⟨g', cap', cur, h', _, hg, hnc, hcm, hcs, htake⟩
  · simp at h'
  · simp only [Value.slice.injEq, Option.some.injEq, Addr.mk.injEq, and_true, true_and] at h'
    obtain ⟨rfl, rfl⟩ := h'
    have : cur = (rowF k v n).toArray := by
      rw [← htake, List.take_of_length_le (by simp; omega)]
    rw [hg, this]
theorem RowAt.of_heap {k : IntKind} {e : TypeId} {v : Nat → Int} {g n : Nat} {w : World} (hn : n ≤ maxLen) (h : w.heap[g]? = some (.cells (rowF k v n).toArray e (0, 0))) : RowAt k e v g n w := by
  refine ⟨by rw [rowF_length]; omega, .inr ⟨g, n, (rowF k v n).toArray, rfl, Nat.zero_le _, h, Nat.le_refl _, hn, by simp [rowF_length], ?_⟩⟩
  rw [List.take_of_length_le (by simp [rowF_length])]

set_option maxHeartbeats 400000 in
theorem from_nil (z : Nat → Nat) (cap : Nat) (w : World) :
    Calls Tryf.prog 6 #[.slice none 0 cap] w fun e w' => ∃ lo m v, e = .returned (.agg #[.int .i64 (lo : Nat), v]) ∧ SetOk z 0 lo m v w.heap.size w' ∧ Below w.heap.size w w' := by
  go_enter Tryf.func6, Tryf.ntmps6
  go_wp2
  go_loop [3] (fun h => h = .int .i64 0) (fun _ => 0)
  case atStart => rfl
  case round =>
    obtain rfl := hrel
    go_wp2
    refine bodyPost_ret (v := .agg #[.int .i64 (0 : Nat), .slice none 0 0]) (by simp [results, Tryf.results6, go_sem]) rfl ⟨0, 0, _, rfl, ?_, ?_⟩
    · exact ⟨World.ownsRow_nil _ _ _ _, by omega, fun j hj _ => by omega, fun h => by omega, fun _ => rfl⟩
    · exact (Below.refl _ _).alloc (Nat.le_refl _) _

theorem info3 : (Tryf.prog.info? 3).map (fun i => (i.zero, i.size, i.bytes)) = some (some (.int .i64 0), 1, 8) := by kernel_rfl
theorem info24s : (Tryf.prog.info? 24).map (·.size) = some 1 := by kernel_rfl

theorem cmp_nil (a : Option Addr) (n cap : Nat) (v : Bool) (h : (!a.isNone) = v) (w : World) : Sem.run Tryf.prog (binOp BinOp.neq 22 (Value.slice a n cap) (Value.slice none 0 0)) w = .ok (.bool v) w := by
  rw [← h]; exact run_neq_slice_nil w 22 24 a n cap Tryf.underlying22

/-- the words as the law holds them -/
def WordsAt (z : Nat → Nat) (A : Option Addr) (n cap : Nat) (w : World) : Prop :=
  (A = none ∧ n = 0) ∨ ∃ g, A = some ⟨g, 0, none⟩ ∧ n ≤ cap ∧ cap ≤ 9223372036854775807 ∧ g < w.heap.size ∧ ∀ j, j < n → w.cell? ⟨g, j, none⟩ = some (.int .u64 (z j : Int))
theorem WordsAt.next {z : Nat → Nat} {A : Option Addr} {n cap : Nat} {w w' : World} (h : WordsAt z A n cap w) (hb : Below w.heap.size w w') : WordsAt z A n cap w' := by
  rcases h with h | ⟨g, h1, h2, h3, h4, h5⟩
  · exact .inl h
  · exact .inr ⟨g, h1, h2, h3, Nat.lt_of_lt_of_le h4 hb.size, fun j hj => by rw [hb.cell (p := ⟨g, j, none⟩) h4]; exact h5 j hj⟩
theorem WordsAt.at_ {z : Nat → Nat} {A : Option Addr} {n cap : Nat} {w : World} (h : WordsAt z A n cap w) (j : Nat) (hj : j < n) : ∃ g, A = some ⟨g, 0, none⟩ ∧ g < w.heap.size ∧ w.cell? ⟨g, j, none⟩ = some (.int .u64 (z j : Int)) := by
  rcases h with ⟨_, rfl⟩ | ⟨g, h1, h2, h3, h4, h5⟩
  · omega
  · exact ⟨g, h1, h4, h5 j hj⟩
theorem from_opt (z : Nat → Nat) (A : Option Addr) (n cap : Nat) (w : World) (hn : n ≤ 65536) (hz : ∀ j, z j < 18446744073709551616) (hbig : ∀ j, 1024 ≤ j → j < n → z j = 0) (h : WordsAt z A n cap w) :
    Calls Tryf.prog 6 #[.slice A n cap] w fun e w' => ∃ lo m v, e = .returned (.agg #[.int .i64 (lo : Nat), v]) ∧ SetOk z n lo m v w.heap.size w' ∧ Below w.heap.size w w' := by
  rcases h with ⟨rfl, rfl⟩ | ⟨g, rfl, h2, h3, h4, h5⟩
  · exact from_nil z cap w
  · exact from_any z g n cap w hn h2 h3 hz hbig h4 h5

/-- all words, zero behind the last -/
def Zn (z : Nat → Nat) (n k : Nat) : Nat := if k < n then z k else 0
theorem SetOk.wdz {z : Nat → Nat} {n lo m : Nat} {v : Value} {B : Nat} {w : World} (h : SetOk z n lo m v B w) : wd z lo m = Zn z n := by
  funext k
  unfold wd Zn
  have := h.fit
  by_cases hh : lo ≤ k ∧ k < lo + m
  · rw [if_pos hh, if_pos (by omega)]
  · rw [if_neg hh]
    by_cases hk : k < n
    · rw [if_pos hk, h.out k hk hh]
    · rw [if_neg hk]

theorem zzscan_true (z : Nat → Nat) (lo m cap id : Nat) (a : Option Addr) (w : World) (hid : id ≤ 65536) (hl : lo + m ≤ 65536) (hz : ∀ j, z j < 18446744073709551616) (hs : SetAt z lo m a w.heap.size w) (ht : TabAt 0 Lib.deBruijn64tab w) (h0 : 0 < w.heap.size) :
    Calls Tryf.prog 13 #[.agg #[.int .i64 (lo : Nat), .slice a m cap], .int .i64 (id : Nat), .bool true] w fun e w' => ∃ r : Int, e = .returned (.int .i64 r) ∧ NS (bitW (wd z lo m)) id r ∧ Below w.heap.size w w' := by
  have hb := bel_alloc w (.cells #[.int .i64 (lo : Nat), .slice a m cap] 26)
  have HS := hide ((hs.next hb (Nat.le_refl _)).mono hb.size)
  have HT := hide (tab_next ht hb h0)
  have HB := hide hb
  clear hs ht hb
  go_enter Tryf.func13, Tryf.ntmps13
  go_wp2_with fail
  refine (scan_true z lo m cap id a _ hid hl hz HS.out HT.out (by simp)).mono ?_
  rintro e w1 ⟨r, rfl, hr, hb1⟩
  have HR := hide hr
  clear hr
  go_wp2
  go_ret
  exact ⟨r, rfl, HR.out, HB.out.trans (hb1.mono HB.out.size)⟩
theorem zzscan_false (z : Nat → Nat) (lo m cap id : Nat) (a : Option Addr) (w : World) (hid : id ≤ 65536) (hl : lo + m ≤ 65536) (hz : ∀ j, z j < 18446744073709551616) (hs : SetAt z lo m a w.heap.size w) (ht : TabAt 0 Lib.deBruijn64tab w) (h0 : 0 < w.heap.size) :
    Calls Tryf.prog 13 #[.agg #[.int .i64 (lo : Nat), .slice a m cap], .int .i64 (id : Nat), .bool false] w fun e w' => ∃ r : Int, e = .returned (.int .i64 r) ∧ NC (bitW (wd z lo m)) id r ∧ Below w.heap.size w w' := by
  have hb := bel_alloc w (.cells #[.int .i64 (lo : Nat), .slice a m cap] 26)
  have HS := hide ((hs.next hb (Nat.le_refl _)).mono hb.size)
  have HT := hide (tab_next ht hb h0)
  have HB := hide hb
  clear hs ht hb
  go_enter Tryf.func13, Tryf.ntmps13
  go_wp2_with fail
  refine (scan_false z lo m cap id a _ hid hl hz HS.out HT.out (by simp)).mono ?_
  rintro e w1 ⟨r, rfl, hr, hb1⟩
  have HR := hide hr
  clear hr
  go_wp2
  go_ret
  exact ⟨r, rfl, HR.out, HB.out.trans (hb1.mono HB.out.size)⟩

/-- the world of the last loop -/
structure GoodB (z : Nat → Nat) (lo m : Nat) (a : Option Addr) (cap g7 g8 b10 M : Nat) (v7 v8 : Nat → Int) (W wr : World) : Prop where
  bx0 : wr.cell? ⟨b10, 0, none⟩ = some (.int .i64 (lo : Nat))
  bx1 : wr.cell? ⟨b10, 1, none⟩ = some (.slice a m cap)
  r7 : RowAt .i64 3 v7 g7 (M + 1) wr
  r8 : RowAt .i64 3 v8 g8 (M + 1) wr
  st : SetAt z lo m a wr.heap.size wr
  tab : TabAt 0 Lib.deBruijn64tab wr
  l8 : b10 < wr.heap.size
  bl : Below W.heap.size W wr
section
variable {z : Nat → Nat} {lo m : Nat} {a : Option Addr} {cap g7 g8 b10 M : Nat} {v7 v8 : Nat → Int} {W wr wr' : World}
theorem GoodB.next (h : GoodB z lo m a cap g7 g8 b10 M v7 v8 W wr) (hb : Below wr.heap.size wr wr') : GoodB z lo m a cap g7 g8 b10 M v7 v8 W wr' := by
  have l8 := h.l8
  exact ⟨(hb.cell (p := ⟨b10, 0, none⟩) l8).trans h.bx0, (hb.cell (p := ⟨b10, 1, none⟩) l8).trans h.bx1, h.r7.below hb h.r7.lt, h.r8.below hb h.r8.lt, (h.st.next hb (Nat.le_refl _)).mono hb.size, tab_next h.tab hb (by omega), Nat.lt_of_lt_of_le l8 hb.size, h.bl.trans (hb.mono h.bl.size)⟩
theorem GoodB.drew (h : GoodB z lo m a cap g7 g8 b10 M v7 v8 W wr) : GoodB z lo m a cap g7 g8 b10 M v7 v8 W wr.drew := h.next (Below.refl _ _).drew
theorem goodB_start {w2 : World} (h7 : RowAt .i64 3 v7 g7 (M + 1) w2) (h8 : RowAt .i64 3 v8 g8 (M + 1) w2) (hs : SetAt z lo m a w2.heap.size w2) (ht : TabAt 0 Lib.deBruijn64tab w2) (h0 : 0 < w2.heap.size) (hb : Below W.heap.size W w2) :
    GoodB z lo m a cap g7 g8 w2.heap.size M v7 v8 W (w2.alloc (.cells #[.int .i64 (lo : Nat), .slice a m cap] 26)) := by
  have hnew := heap_alloc_new w2 (.cells #[.int .i64 (lo : Nat), .slice a m cap] 26)
  have hBA := bel_alloc w2 (.cells #[.int .i64 (lo : Nat), .slice a m cap] 26)
  refine ⟨?_, ?_, h7.below hBA h7.lt, h8.below hBA h8.lt, (hs.next hBA (Nat.le_refl _)).mono hBA.size, tab_next ht hBA h0, by simp, hb.trans (hBA.mono hb.size)⟩
  · rw [cell_of_row _ _ _ _ _ _ hnew]; rfl
  · rw [cell_of_row _ _ _ _ _ _ hnew]; rfl
theorem goodB_true (h : Hid (GoodB z lo m a cap g7 g8 b10 M v7 v8 W wr)) (hl : lo + m ≤ 65536) (hM : M ≤ 65536) (hz : ∀ j, z j < 18446744073709551616) (b : Nat → Bool) (hb : Hid (bitW (wd z lo m) = b)) (hv : Hid (∀ t, t ≤ M → NS b t (v7 t) ∧ NC b t (v8 t))) (p : Nat) (hp : p ≤ M) :
    Calls Tryf.prog 13 #[.agg #[.int .i64 (lo : Nat), .slice a m cap], .int .i64 (p : Nat), .bool true] wr fun e w' => e = .returned (.int .i64 (v7 p)) ∧ Hid (GoodB z lo m a cap g7 g8 b10 M v7 v8 W w') ∧ w'.cell? ⟨g7, p, none⟩ = some (.int .i64 (v7 p)) := by
  refine (zzscan_true z lo m cap p a wr (by omega) hl hz h.out.st h.out.tab (by have := h.out.l8; omega)).mono ?_
  rintro e w1 ⟨r, rfl, hr, hbl⟩
  rw [hb.out] at hr
  obtain rfl := hr.uniq (hv.out p hp).1
  have hg := h.out.next hbl
  exact ⟨rfl, hg, hg.r7.cell p (by omega)⟩
theorem goodB_false (h : Hid (GoodB z lo m a cap g7 g8 b10 M v7 v8 W wr)) (hl : lo + m ≤ 65536) (hM : M ≤ 65536) (hz : ∀ j, z j < 18446744073709551616) (b : Nat → Bool) (hb : Hid (bitW (wd z lo m) = b)) (hv : Hid (∀ t, t ≤ M → NS b t (v7 t) ∧ NC b t (v8 t))) (p : Nat) (hp : p ≤ M) :
    Calls Tryf.prog 13 #[.agg #[.int .i64 (lo : Nat), .slice a m cap], .int .i64 (p : Nat), .bool false] wr fun e w' => e = .returned (.int .i64 (v8 p)) ∧ Hid (GoodB z lo m a cap g7 g8 b10 M v7 v8 W w') ∧ w'.cell? ⟨g8, p, none⟩ = some (.int .i64 (v8 p)) := by
  refine (zzscan_false z lo m cap p a wr (by omega) hl hz h.out.st h.out.tab (by have := h.out.l8; omega)).mono ?_
  rintro e w1 ⟨r, rfl, hr, hbl⟩
  rw [hb.out] at hr
  obtain rfl := hr.uniq (hv.out p hp).2
  have hg := h.out.next hbl
  exact ⟨rfl, hg, hg.r8.cell p (by omega)⟩
end

end Go.Proofs.Qxb6630324aFmt.Walks

import Derived.Test.Qxb6630324aFmtLen
namespace Go.Proofs.Qxb6630324aFmt.Walks
open Go.RowKit

/-- a made row of ints, cell for cell -/
def rowF (k : IntKind) (v : Nat → Int) (n : Nat) : List Value := (List.range n).map fun i => .int k (v i)
theorem rowF_length (k : IntKind) (v : Nat → Int) (n : Nat) : (rowF k v n).length = n := by simp [rowF]
theorem rowF_get (k : IntKind) (v : Nat → Int) (n i : Nat) (h : i < n) : (rowF k v n)[i]? = some (.int k (v i)) := by simp [rowF, h]
theorem rowF_set (k : IntKind) (v : Nat → Int) (n i : Nat) (x : Int) : (rowF k v n).set i (.int k x) = rowF k (fun j => if j = i then x else v j) n := by
  apply List.ext_getElem?
  intro j
  by_cases hj : j < n
  · rw [rowF_get k _ n j hj]
    by_cases hji : j = i
    · subst hji; rw [List.getElem?_set_self (by rw [rowF_length]; exact hj)]; simp
    · rw [List.getElem?_set_ne (by omega), rowF_get k v n j hj]; simp [hji]
  · rw [List.getElem?_eq_none (by rw [List.length_set, rowF_length]; omega), List.getElem?_eq_none (by rw [rowF_length]; omega)]
theorem rowF_congr (k : IntKind) (v v' : Nat → Int) (n : Nat) (h : ∀ i, i < n → v i = v' i) : rowF k v n = rowF k v' n := by
  apply List.ext_getElem?
  intro j
  by_cases hj : j < n
  · rw [rowF_get k _ n j hj, rowF_get k _ n j hj, h j hj]
  · rw [List.getElem?_eq_none (by rw [rowF_length]; omega), List.getElem?_eq_none (by rw [rowF_length]; omega)]
theorem rowF_zero (k : IntKind) (n : Nat) : (madeCells (Value.int k 0).cells (n * 1)).toList = rowF k (fun _ => 0) n := by
  show (madeCells #[Value.int k 0] (n * 1)).toList = _
  rw [toList_madeCells_one, Nat.mul_one]
  simp [rowF, List.map_const']

def RowAt (k : IntKind) (e : TypeId) (v : Nat → Int) (g n : Nat) (w : World) : Prop := w.ownsRow 0 e 1 (.slice (some ⟨g, 0, none⟩) n n) n (rowF k v n)
section
variable {k : IntKind} {e : TypeId} {v v' : Nat → Int} {g n : Nat} {w w' : World}
theorem RowAt.lt (h : RowAt k e v g n w) : g < w.heap.size := by
  rcases h.2 with ⟨h', _⟩ | ⟨g', cap', cur, h', _, hg, _⟩
  · simp at h'
  · simp only [Value.slice.injEq, Option.some.injEq, Addr.mk.injEq, and_true, true_and] at h'
    obtain ⟨rfl, rfl⟩ := h'
    exact (Array.getElem?_eq_some_iff.1 hg).1
theorem RowAt.cell (h : RowAt k e v g n w) (i : Nat) (hi : i < n) : w.cell? ⟨g, i, none⟩ = some (.int k (v i)) := (World.ownsRow.cellAt h i (by omega)).trans (rowF_get k v n i hi)
theorem RowAt.frozen (h : RowAt k e v g n w) (i : Nat) : w.frozen? ⟨g, i, none⟩ = false := World.ownsRow.frozenAt h i
theorem RowAt.store (h : RowAt k e v g n w) (i : Nat) (x : Int) : RowAt k e (fun j => if j = i then x else v j) g n (w.setCell ⟨g, i, none⟩ (.int k x)) := by
  have := (World.ownsRow.stored h i (.int k x)).1
  rw [rowF_set] at this
  exact this
theorem RowAt.congr (h : RowAt k e v g n w) (hv : ∀ i, i < n → v i = v' i) : RowAt k e v' g n w := by
  unfold RowAt at h ⊢
  rw [← rowF_congr k v v' n hv]; exact h
theorem RowAt.block (h : RowAt k e v g n w) (hb : w'.heap[g]? = w.heap[g]?) : RowAt k e v g n w' := by
  refine ⟨h.1, ?_⟩
  rcases h.2 with ⟨h', h2⟩ | ⟨g', cap', cur, h', h2, hg, h3⟩
  · exact .inl ⟨h', h2⟩
  · have h'' := h'
    simp only [Value.slice.injEq, Option.some.injEq, Addr.mk.injEq, and_true, true_and] at h''
    obtain ⟨rfl, rfl⟩ := h''
    exact .inr ⟨g, n, cur, h', h2, by rw [hb]; exact hg, h3⟩
theorem RowAt.other (h : RowAt k e v g n w) (b o : Nat) (u : Value) (hb : g ≠ b) : RowAt k e v g n (w.setCell ⟨b, o, none⟩ u) := h.block (heap_setCell_other _ _ _ _ hb)
theorem RowAt.below {B : Nat} (h : RowAt k e v g n w) (hb : Below B w w') (hB : g < B) : RowAt k e v g n w' := h.block (hb.block g hB)
theorem RowAt.alloc (h : RowAt k e v g n w) (o : Obj) : RowAt k e v g n (w.alloc o) := h.block (Below.heap_alloc _ _ _ h.lt)
theorem RowAt.grown (h : RowAt k e v g n w) (hg : w.grownBy w' none) : RowAt k e v g n w' := h.below ((Below.refl w.heap.size w).grown hg (Nat.le_refl _) (by simp)) h.lt
end

theorem SetAt.other {z : Nat → Nat} {lo m : Nat} {a : Option Addr} {B : Nat} {w : World} (h : SetAt z lo m a B w) (b o : Nat) (u : Value) (hb : ∀ g, a = some ⟨g, 0, none⟩ → g ≠ b) : SetAt z lo m a B (w.setCell ⟨b, o, none⟩ u) :=
  ⟨fun i hi => by
    obtain ⟨g, h1, h2, h3⟩ := h.at_ i hi
    exact ⟨g, h1, h2, by rw [World.cell?_of_block (w := w) (heap_setCell_other _ _ _ _ (hb g h1))]; exact h3⟩⟩
theorem SetAt.mono {z : Nat → Nat} {lo m : Nat} {a : Option Addr} {B B' : Nat} {w : World} (h : SetAt z lo m a B w) (hB : B ≤ B') : SetAt z lo m a B' w :=
  ⟨fun i hi => by
    obtain ⟨g, h1, h2, h3⟩ := h.at_ i hi
    exact ⟨g, h1, by omega, h3⟩⟩

/-- the world behind FromBitmap -/
structure Good (z : Nat → Nat) (lo m : Nat) (a : Option Addr) (cap g5 g6 b8 n : Nat) (W wr : World) : Prop where
  bx0 : wr.cell? ⟨b8, 0, none⟩ = some (.int .i64 (lo : Nat))
  bx1 : wr.cell? ⟨b8, 1, none⟩ = some (.slice a m cap)
  want : RowAt .u64 24 (fun j => (z j : Int)) g5 n wr
  c : ∃ v, RowAt .u64 24 v g6 n wr
  st : SetAt z lo m a wr.heap.size wr
  ne : ∀ g, a = some ⟨g, 0, none⟩ → g ≠ g6
  n8 : b8 ≠ g6
  n5 : g5 ≠ g6
  l8 : b8 < wr.heap.size
  l6 : W.heap.size ≤ g6
  bl : Below W.heap.size W wr

section
variable {z : Nat → Nat} {lo m : Nat} {a : Option Addr} {cap g5 g6 b8 n : Nat} {W wr wr' : World}
theorem size_set (w : World) (a : Addr) (v : Value) : (w.setCell a v).heap.size = w.heap.size := by simp
theorem Good.store (h : Good z lo m a cap g5 g6 b8 n W wr) (i : Nat) (x : Int) : Good z lo m a cap g5 g6 b8 n W (wr.setCell ⟨g6, i, none⟩ (.int .u64 x)) := by
  obtain ⟨v, hv⟩ := h.c
  refine ⟨?_, ?_, h.want.other _ _ _ h.n5, ⟨_, hv.store i x⟩, ?_, h.ne, h.n8, h.n5, by rw [size_set]; exact h.l8, h.l6, h.bl.setCell h.l6 _⟩
  · rw [World.cell?_of_block (w := wr) (heap_setCell_other _ _ _ _ h.n8)]; exact h.bx0
  · rw [World.cell?_of_block (w := wr) (heap_setCell_other _ _ _ _ h.n8)]; exact h.bx1
  · rw [size_set]; exact h.st.other _ _ _ h.ne
theorem Good.next {B : Nat} (h : Good z lo m a cap g5 g6 b8 n W wr) (hb : Below B wr wr') (hB : wr.heap.size ≤ B) : Good z lo m a cap g5 g6 b8 n W wr' := by
  obtain ⟨v, hv⟩ := h.c
  have l5 := h.want.lt
  have l6 := hv.lt
  have l8 := h.l8
  exact ⟨(hb.cell (p := ⟨b8, 0, none⟩) (by show b8 < B; omega)).trans h.bx0, (hb.cell (p := ⟨b8, 1, none⟩) (by show b8 < B; omega)).trans h.bx1, h.want.below hb (by omega), ⟨v, hv.below hb (by omega)⟩, (h.st.next hb hB).mono hb.size, h.ne, h.n8, h.n5, Nat.lt_of_lt_of_le l8 hb.size, h.l6, h.bl.trans (hb.mono (Nat.le_trans h.bl.size hB))⟩
theorem Good.drew (h : Good z lo m a cap g5 g6 b8 n W wr) : Good z lo m a cap g5 g6 b8 n W wr.drew := h.next (B := wr.heap.size) (Below.refl _ _).drew (Nat.le_refl _)
end

/-- the box of the Set -/
theorem good_start {z : Nat → Nat} {lo m : Nat} {a : Option Addr} {cap g5 g6 n : Nat} {W w1 w2 : World}
    (h5 : RowAt .u64 24 (fun j => (z j : Int)) g5 n w1) (h6 : RowAt .u64 24 (fun j => (z j : Int)) g6 n w1) (hne : g5 ≠ g6) (hl : W.heap.size ≤ g6) (hb : Below W.heap.size W w1) (hb2 : Below w1.heap.size w1 w2)
    (hs : SetAt z lo m a w2.heap.size w2) (ha : ∀ g, a = some ⟨g, 0, none⟩ → w1.heap.size ≤ g) :
    Good z lo m a cap g5 g6 w2.heap.size n W (w2.alloc (.cells #[.int .i64 (lo : Nat), .slice a m cap] 26)) := by
  have l5 := h5.lt
  have l6 := h6.lt
  have k5 := h5.below hb2 l5
  have k6 := h6.below hb2 l6
  have hnew := heap_alloc_new w2 (.cells #[.int .i64 (lo : Nat), .slice a m cap] 26)
  have hw := hb2.size
  have hBA := bel_alloc w2 (.cells #[.int .i64 (lo : Nat), .slice a m cap] 26)
  refine ⟨?_, ?_, k5.below hBA (by omega), ⟨_, k6.below hBA (by omega)⟩, (hs.next hBA (Nat.le_refl _)).mono hBA.size, fun g hg => ?_, by omega, hne, by simp, hl, (hb.trans (hb2.mono hb.size)).trans (hBA.mono (Nat.le_trans hb.size hw))⟩
  · rw [cell_of_row _ _ _ _ _ _ hnew]; rfl
  · rw [cell_of_row _ _ _ _ _ _ hnew]; rfl
  · have := ha g hg; omega

theorem SetOk.view2 {z : Nat → Nat} {n lo m : Nat} {v : Value} {B : Nat} {w : World} (h : SetOk z n lo m v B w) : ∃ a cap, v = .slice a m cap ∧ SetAt z lo m a w.heap.size w ∧ (∀ g, a = some ⟨g, 0, none⟩ → B ≤ g) := by
  rcases h.own.2 with ⟨rfl, h0⟩ | ⟨g, cap, cur, rfl, hbg, hg, _⟩
  · exact ⟨.none, 0, by rw [h0], ⟨fun i hi => by omega⟩, fun g hg => by cases hg⟩
  · refine ⟨some ⟨g, 0, none⟩, cap, rfl, ⟨fun i hi => ⟨g, rfl, (Array.getElem?_eq_some_iff.1 hg).1, ?_⟩⟩, fun g' hg' => by cases hg'; exact hbg⟩
    rw [h.own.cellAt i (by omega), ws_get z lo m i hi]

-- plain
theorem sums_add (g : Nat → Nat) (x y : Nat) : sums g (x + y) = sums g x + sums (fun j => g (x + j)) y := by
  induction y with
  | zero => rfl
  | succ y ih => rw [← Nat.add_assoc]; simp only [sums]; rw [ih]; omega
theorem sums_zero (g : Nat → Nat) (x : Nat) (h : ∀ j, j < x → g j = 0) : sums g x = 0 := by
  induction x with
  | zero => rfl
  | succ x ih => simp only [sums]; rw [ih (fun j hj => h j (by omega)), h x (by omega)]
theorem sums_pos (g : Nat → Nat) (x j : Nat) (hj : j < x) (h : g j ≠ 0) : sums g x ≠ 0 := by
  induction x with
  | zero => omega
  | succ x ih =>
    simp only [sums]
    by_cases h1 : j = x
    · subst h1; omega
    · have := ih (by omega); omega
theorem popf_pos (x : Nat) (h0 : x ≠ 0) (hx : x < 18446744073709551616) : popf 64 x ≠ 0 := by
  have := popf_step 64 x h0 (by exact hx)
  omega

def pz (z : Nat → Nat) (j : Nat) : Nat := popf 64 (z j)
theorem sums_succ (f : Nat → Nat) (k : Nat) : sums f (k + 1) = sums f k + f k := rfl
theorem sums_nil (f : Nat → Nat) : sums f 0 = 0 := rfl
theorem pop8_pz (z : Nat → Nat) (k : Nat) (h : z k < 18446744073709551616) (w : World) : Calls Tryf.prog 8 #[.int .u64 (z k : Int)] w fun e w' => e = .returned (.int .i64 (pz z k : Nat)) ∧ w' = w := pop8_any (z k) w h
theorem pz_le (z : Nat → Nat) (j : Nat) : pz z j ≤ 64 := popf_le 64 _

/-- what the law asks of the Set -/
structure Fits (z : Nat → Nat) (n lo m : Nat) : Prop where
  fit : lo + m ≤ n
  wdk : ∀ k, k < n → wd z lo m k = z k
  wdn : wd z lo m n = 0
  sum : sums (fun j => popf 64 (z (lo + j))) m = sums (pz z) n
  pos : 0 < m → sums (pz z) n ≠ 0
  first : 0 < m → z lo ≠ 0
  last : 0 < m → z (lo + m - 1) ≠ 0
theorem SetOk.fits {z : Nat → Nat} {n lo m : Nat} {v : Value} {B : Nat} {w : World} (h : SetOk z n lo m v B w) (hz : ∀ j, z j < 18446744073709551616) : Fits z n lo m := by
  have hf := h.fit
  refine ⟨hf, fun k hk => ?_, ?_, ?_, fun hm => ?_, fun hm => (h.ends hm).1, fun hm => (h.ends hm).2⟩
  · unfold wd
    by_cases hh : lo ≤ k ∧ k < lo + m
    · rw [if_pos hh]
    · rw [if_neg hh, h.out k hk hh]
  · unfold wd; rw [if_neg (by omega)]
  · obtain ⟨r, rfl⟩ : ∃ r, n = lo + (m + r) := ⟨n - lo - m, by omega⟩
    rw [sums_add, sums_add, sums_zero (pz z) lo (fun j hj => by show popf 64 (z j) = 0; rw [h.out j (by omega) (by omega)]; exact popf_zero 64),
      sums_zero _ r (fun j hj => by show popf 64 (z (lo + (m + j))) = 0; rw [h.out _ (by omega) (by omega)]; exact popf_zero 64)]
    rw [Nat.zero_add, Nat.add_zero]; rfl
  · exact sums_pos _ n lo (by omega) (popf_pos _ (h.ends hm).1 (hz _))

section
variable {z : Nat → Nat} {lo m : Nat} {a : Option Addr} {cap g5 g6 b8 n : Nat} {W wx : World}
theorem good_word (h : Hid (Good z lo m a cap g5 g6 b8 n W wx)) (hf : Hid (Fits z n lo m)) (hn : n ≤ 65536) (k : Nat) (hk : k < n) :
    Calls Tryf.prog 7 #[.agg #[.int .i64 (lo : Nat), .slice a m cap], .int .i64 (k : Nat)] wx fun e w' => e = .returned (.int .u64 (z k)) ∧ Hid (Good z lo m a cap g5 g6 b8 n W w') ∧ w'.cell? ⟨g5, k, none⟩ = some (.int .u64 (z k : Int)) := by
  have hft := hf.out.fit
  refine (zzword_any z lo m cap k a wx (by omega) (by omega) h.out.st).mono ?_
  rintro e w1 ⟨rfl, hb⟩
  rw [hf.out.wdk k hk]
  have hg := h.out.next hb (Nat.le_refl _)
  exact ⟨rfl, hg, hg.want.cell k hk⟩
theorem good_wordn (h : Hid (Good z lo m a cap g5 g6 b8 n W wx)) (hf : Hid (Fits z n lo m)) (hn : n ≤ 65536) :
    Calls Tryf.prog 7 #[.agg #[.int .i64 (lo : Nat), .slice a m cap], .int .i64 (n : Nat)] wx fun e w' => e = .returned (.int .u64 0) ∧ Hid (Good z lo m a cap g5 g6 b8 n W w') ∧ w'.cell? ⟨b8, 0, none⟩ = some (.int .i64 (lo : Nat)) ∧ w'.cell? ⟨b8, 1, none⟩ = some (.slice a m cap) := by
  have hft := hf.out.fit
  refine (zzword_any z lo m cap n a wx (by omega) (by omega) h.out.st).mono ?_
  rintro e w1 ⟨rfl, hb⟩
  rw [hf.out.wdn]
  have hg := h.out.next hb (Nat.le_refl _)
  exact ⟨rfl, hg, hg.bx0, hg.bx1⟩
theorem good_wordlow (h : Hid (Good z lo m a cap g5 g6 b8 n W wx)) (hf : Hid (Fits z n lo m)) (hn : n ≤ 65536) :
    Calls Tryf.prog 7 #[.agg #[.int .i64 (lo : Nat), .slice a m cap], .int .i64 (-1)] wx fun e w' => e = .returned (.int .u64 0) ∧ Hid (Good z lo m a cap g5 g6 b8 n W w') ∧ w'.cell? ⟨b8, 0, none⟩ = some (.int .i64 (lo : Nat)) ∧ w'.cell? ⟨b8, 1, none⟩ = some (.slice a m cap) := by
  have hft := hf.out.fit
  refine (zzword_low lo m cap a (-1) wx (by omega) (by omega) (by omega)).mono ?_
  rintro e w1 ⟨rfl, hb⟩
  have hg := h.out.next hb (Nat.le_refl _)
  exact ⟨rfl, hg, hg.bx0, hg.bx1⟩
theorem good_len (h : Hid (Good z lo m a cap g5 g6 b8 n W wx)) (hf : Hid (Fits z n lo m)) (hn : n ≤ 65536) (hz : ∀ j, z j < 18446744073709551616) (S : Nat) (hS : Hid (sums (pz z) n = S)) :
    Calls Tryf.prog 9 #[.agg #[.int .i64 (lo : Nat), .slice a m cap]] wx fun e w' => e = .returned (.int .i64 (S : Nat)) ∧ Hid (Good z lo m a cap g5 g6 b8 n W w') ∧ w'.cell? ⟨b8, 0, none⟩ = some (.int .i64 (lo : Nat)) ∧ w'.cell? ⟨b8, 1, none⟩ = some (.slice a m cap) := by
  have hft := hf.out.fit
  refine (len_any z lo m cap a wx (by omega) hz h.out.st).mono ?_
  rintro e w1 ⟨rfl, hb⟩
  rw [hf.out.sum, hS.out]
  have hg := h.out.next hb (Nat.le_refl _)
  exact ⟨rfl, hg, hg.bx0, hg.bx1⟩
theorem good_low (h : Hid (Good z lo m a cap g5 g6 b8 n W wx)) :
    Calls Tryf.prog 10 #[.agg #[.int .i64 (lo : Nat), .slice a m cap]] wx fun e w' => e = .returned (.int .i64 (lo : Nat)) ∧ Hid (Good z lo m a cap g5 g6 b8 n W w') ∧ w'.cell? ⟨b8, 0, none⟩ = some (.int .i64 (lo : Nat)) ∧ w'.cell? ⟨b8, 1, none⟩ = some (.slice a m cap) := by
  refine (zzlow_any lo m cap a wx).mono ?_
  rintro e w1 ⟨rfl, hb⟩
  have hg := h.out.next hb (Nat.le_refl _)
  exact ⟨rfl, hg, hg.bx0, hg.bx1⟩
theorem good_words (h : Hid (Good z lo m a cap g5 g6 b8 n W wx)) :
    Calls Tryf.prog 11 #[.agg #[.int .i64 (lo : Nat), .slice a m cap]] wx fun e w' => e = .returned (.slice a m cap) ∧ Hid (Good z lo m a cap g5 g6 b8 n W w') := by
  refine (zzwords_any lo m cap a wx).mono ?_
  rintro e w1 ⟨rfl, hb⟩
  exact ⟨rfl, h.out.next hb (Nat.le_refl _)⟩
end

end Go.Proofs.Qxb6630324aFmt.Walks

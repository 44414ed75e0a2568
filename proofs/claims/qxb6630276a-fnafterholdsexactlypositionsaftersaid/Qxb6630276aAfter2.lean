import Derived.Test.Qxb6630276aAfter
import Derived.Deep.LoopGhost
namespace Go.Proofs.Qxb6630276a.Walks
open Go.RowKit

/-- the lengths of the prefixes of After, in order -/
def els (f : Nat → Nat) : Nat → List Nat
  | 0 => []
  | l + 1 => if bit f l = 0 then (l + 1) :: els f l else els f l
/-- the sibling of the first l bits of f -/
def sib (f : Nat → Nat) (l : Nat) : Nat → Nat := flip (cut f l) (l - 1)
def rows (f : Nat → Nat) (ls : List Nat) : List Value := ls.flatMap (fun l => pfx (sib f l) l)

theorem els_length (f : Nat → Nat) (n : Nat) : (els f n).length ≤ n := by
  induction n with
  | zero => simp [els]
  | succ n ih =>
    unfold els
    split
    · rw [List.length_cons]; omega
    · omega

theorem els_hit (f : Nat → Nat) (l : Nat) (h1 : 1 ≤ l) (h : bit f (l - 1) = 0) : els f l = l :: els f (l - 1) := by
  obtain ⟨k, rfl⟩ : ∃ k, l = k + 1 := ⟨l - 1, by omega⟩
  rw [Nat.add_sub_cancel] at h ⊢; rw [els, if_pos h]
theorem els_miss (f : Nat → Nat) (l : Nat) (h1 : 1 ≤ l) (h : bit f (l - 1) ≠ 0) : els f l = els f (l - 1) := by
  obtain ⟨k, rfl⟩ : ∃ k, l = k + 1 := ⟨l - 1, by omega⟩
  rw [Nat.add_sub_cancel] at h ⊢; rw [els, if_neg h]

/-! plain facts on bits of a cut -/
theorem mod_div_pow (y k e : Nat) (h : k ≤ e) : (y - y % 2 ^ k) / 2 ^ e = y / 2 ^ e := by
  have h1 : y - y % 2 ^ k = 2 ^ k * (y / 2 ^ k) := by have := Nat.div_add_mod y (2 ^ k); omega
  rw [h1, show 2 ^ e = 2 ^ k * 2 ^ (e - k) by rw [← Nat.pow_add]; congr 1; omega, Nat.mul_div_mul_left _ _ (Nat.two_pow_pos k), Nat.div_div_eq_div_mul]

theorem bit_cut (f : Nat → Nat) (n i : Nat) (h : i < n) : bit (cut f n) i = bit f i := by
  unfold bit cut
  rw [mod_div_pow]
  omega

theorem cut_cut (f : Nat → Nat) (n m : Nat) (h : m ≤ n) : cut (cut f n) m = cut f m := by
  funext j
  unfold cut
  generalize f j = y
  have hk : 8 - (n - 8 * j) ≤ 8 - (m - 8 * j) := by omega
  generalize 8 - (n - 8 * j) = a at *
  generalize 8 - (m - 8 * j) = b at *
  have e1 : y - y % 2 ^ b = 2 ^ b * (y / 2 ^ b) := by have := Nat.div_add_mod y (2 ^ b); omega
  have e2 : (y - y % 2 ^ a) - (y - y % 2 ^ a) % 2 ^ b = 2 ^ b * ((y - y % 2 ^ a) / 2 ^ b) := by have := Nat.div_add_mod (y - y % 2 ^ a) (2 ^ b); omega
  rw [e1, e2, mod_div_pow y a b hk]

/-! rows that are owned, kept -/
theorem own_below {w w' : World} {B base e sz n : Nat} {v : Value} {xs : List Value} (h : w.ownsRow base e sz v n xs) (hb : Below B w w') (hB : w.heap.size ≤ B) : w'.ownsRow base e sz v n xs := by
  rcases h with ⟨hl, h | ⟨g, cap, cur, hv, hbg, hg, hn, hm, hs, ht⟩⟩
  · exact ⟨hl, .inl h⟩
  · have hlt : g < w.heap.size := (Array.getElem?_eq_some_iff.1 hg).1
    exact ⟨hl, .inr ⟨g, cap, cur, hv, hbg, by rw [hb.block g (by omega)]; exact hg, hn, hm, hs, ht⟩⟩

theorem own_ge {w : World} {base e sz n : Nat} {v : Value} {xs : List Value} (h : w.ownsRow base e sz v n xs) : ∀ k, v.ownBlock = some k → base ≤ k := by
  intro k hk
  rcases h.2 with ⟨rfl, _⟩ | ⟨g, cap, cur, rfl, hbg, _⟩
  · simp [Value.ownBlock] at hk
  · simp [Value.ownBlock] at hk; omega

theorem setCells_block (w : World) (b o : Nat) (vs : List Value) (k : Nat) (hk : k ≠ b) : (w.setCells b o vs).heap[k]? = w.heap[k]? := by
  induction vs generalizing w o with
  | nil => rfl
  | cons v r ih => rw [World.setCells, ih, heap_setCell_other _ _ _ _ (by simpa using hk)]

theorem own_setCells {w : World} {base e sz n : Nat} {v : Value} {xs : List Value} (h : w.ownsRow base e sz v n xs) (b o : Nat) (vs : List Value) (hb : b < base) : (w.setCells b o vs).ownsRow base e sz v n xs := by
  rcases h with ⟨hl, h | ⟨g, cap, cur, hv, hbg, hg, hn, hm, hs, ht⟩⟩
  · exact ⟨hl, .inl h⟩
  · exact ⟨hl, .inr ⟨g, cap, cur, hv, hbg, by rw [setCells_block _ _ _ _ _ (by omega)]; exact hg, hn, hm, hs, ht⟩⟩

theorem pBit_sub (f : Nat → Nat) (n : Nat) (w : World) (h1 : 1 ≤ n) (hn : n ≤ 256) (hf : ∀ j, f j < 256) :
    Calls Try.prog 14 #[.agg (pfx f n).toArray, .int .i64 ((n : Int) - 1)] w fun e w' => e = .returned (.int .i64 (bit f (n - 1))) ∧ Below w.heap.size w w' := by
  rw [show (n : Int) - 1 = ((n - 1 : Nat) : Int) by omega]
  refine (pBit_any f n (n - 1) w (by omega) hf).mono ?_
  rintro e w' ⟨rfl, rfl⟩
  exact ⟨rfl, ((Below.refl _ _).alloc (Nat.le_refl _) _).alloc (by simp) _⟩

theorem bslice (g : Nat → Nat) (n : Nat) (w : World) : (Instr.buildSlice 23 1 #[(0, .agg (pfx g n).toArray)]).run Try.prog w = .ok (.slice (some ⟨w.heap.size, 0, none⟩) 1 1) (w.alloc (.cells (pfx g n).toArray 26)) := by kernel_rfl

theorem info26b : (Try.prog.info? 26).map (fun i => (i.zero, i.size, i.bytes)) = some (some (.agg zero26), 33, 40) := by kernel_rfl

/-- what the loop of After keeps -/
structure Kept (f : Nat → Nat) (n l B : Nat) (v : Value) (w wr : World) (done : List Nat) : Prop where
  le : l ≤ n
  split : done ++ els f l = els f n
  box : wr.rangeAt B 0 (pfx (cut f l) l)
  room : wr.there B 0 33
  own : wr.ownsRow (B + 1) 26 33 v done.length (rows f done)
  below : Below B w wr
  lt : B < wr.heap.size

/-- .. over a callee that lets all that was there stand -/
theorem Kept.next {f : Nat → Nat} {n l B : Nat} {v : Value} {w wr w1 : World} {done : List Nat} (h : Kept f n l B v w wr done) (hb : Below wr.heap.size wr w1) : Kept f n l B v w w1 done :=
  ⟨h.le, h.split, range_below hb h.lt h.box, there_below hb h.lt h.room, own_below h.own hb (Nat.le_refl _), h.below.trans (hb.mono (Nat.le_of_lt h.lt)), Nat.lt_of_lt_of_le h.lt hb.size⟩

/-- .. over the append of one prefix -/
theorem Kept.grow {f : Nat → Nat} {n l B : Nat} {v v' : Value} {w wr w1 : World} {done : List Nat} (h : Kept f n l B v w wr done) (x : List Value)
    (hx : x = pfx (sib f l) l) (o : w1.ownsRow (B + 1) 26 33 v' (done.length + 1) (rows f done ++ x)) (hg : wr.grownBy w1 v.ownBlock) (h1 : 1 ≤ l) (hb : bit f (l - 1) = 0) :
    (done ++ [l]) ++ els f (l - 1) = els f n ∧ w1.rangeAt B 0 (pfx (cut f l) l) ∧ w1.there B 0 33 ∧ w1.ownsRow (B + 1) 26 33 v' (done ++ [l]).length (rows f (done ++ [l])) ∧ Below B w w1 ∧ B < w1.heap.size := by
  have hbl : Below (B + 1) wr w1 := (Below.refl _ _).grown hg h.lt (own_ge h.own)
  refine ⟨?_, range_below hbl (by omega) h.box, there_below hbl (by omega) h.room, ?_, h.below.trans (hbl.mono (by omega)), Nat.lt_of_lt_of_le h.lt hbl.size⟩
  · rw [← h.split, els_hit f l h1 hb, List.append_assoc]; rfl
  · rw [List.length_append]; unfold rows at *; rw [List.flatMap_append]; subst hx; simpa using o

theorem Kept.miss {f : Nat → Nat} {n l B : Nat} {v : Value} {w wr : World} {done : List Nat} (h : Kept f n l B v w wr done) (h1 : 1 ≤ l) (hb : bit f (l - 1) ≠ 0) :
    done ++ els f (l - 1) = els f n ∧ wr.rangeAt B 0 (pfx (cut f l) l) ∧ wr.there B 0 33 ∧ wr.ownsRow (B + 1) 26 33 v done.length (rows f done) ∧ Below B w wr ∧ B < wr.heap.size :=
  ⟨by rw [← els_miss f l h1 hb]; exact h.split, h.box, h.room, h.own, h.below, h.lt⟩

/-- .. over the call of Parent and the store of what it gives -/
theorem kept_step {f : Nat → Nat} {n l B : Nat} {v : Value} {w w3 w4 : World} {done : List Nat} (p : Nat → Nat) (hp : p = cut f (l - 1)) (hl : l ≤ n)
    (h : done ++ els f (l - 1) = els f n ∧ w3.rangeAt B 0 (pfx (cut f l) l) ∧ w3.there B 0 33 ∧ w3.ownsRow (B + 1) 26 33 v done.length (rows f done) ∧ Below B w w3 ∧ B < w3.heap.size)
    (hb : Below w3.heap.size w3 w4) : Kept f n (l - 1) B v w (w4.setCells B 0 (pfx p (l - 1))) done := by
  obtain ⟨h1, _, h3, h4, h5, h6⟩ := h
  have ht : w4.there B 0 33 := there_below hb h6 h3
  subst hp
  refine ⟨by omega, h1, World.rangeAt_setCells_same _ _ _ _ (by rw [pfx_length]; exact ht), World.there_setCells ht _ _ _, own_setCells (own_below h4 hb (Nat.le_refl _)) _ _ _ (by omega), below_setCells (h5.trans (hb.mono (Nat.le_of_lt h6))) _ _ (Nat.le_refl _) _, ?_⟩
  have hs := (below_setCells (Below.refl 0 w4) B 0 (Nat.zero_le _) (pfx (cut f (l - 1)) (l - 1))).size
  have := hb.size
  omega

theorem hmul (k : Nat) (h : k ≤ 256) : k + 1 ≤ maxLen ∧ (k + 1) * 40 ≤ 140737488355328 := ⟨by unfold maxLen; omega, by omega⟩

set_option maxHeartbeats 1000000 in
theorem after_any (f : Nat → Nat) (n : Nat) (w : World) (hn : n ≤ 256) (hf : ∀ j, f j < 256) :
    Calls Try.prog 6 #[.agg (pfx (cut f n) n).toArray] w fun e w' => ∃ v, e = .returned v ∧
      w'.ownsRow (w.heap.size + 1) 26 33 v (els f n).length (rows f (els f n)) ∧ Below w.heap.size w w' := by
  obtain ⟨i0, hi, hz0, hz1, hz2⟩ := info_parts info26b
  have hk0 : Kept f n n w.heap.size (.slice none 0 0) w (w.alloc (.cells (pfx (cut f n) n).toArray 26)) [] :=
    ⟨Nat.le_refl _, rfl, range_of_row _ (heap_alloc_new w _), there_new w _ 26 33 (by rw [pfx_size]; omega), World.ownsRow_nil _ _ _ _, (Below.refl _ _).alloc (Nat.le_refl _) _, by simp⟩
  have HK0 := hide hk0
  clear hk0
  obtain ⟨g0, hg0⟩ : ∃ g0, cut f n = g0 := ⟨_, rfl⟩
  rw [hg0] at HK0 ⊢
  clear hg0
  go_enter Try.func6, Try.ntmps6
  go_wp2
  go_loopg [3] n (fun l v wr => ∃ done, Kept f n l w.heap.size v w wr done)
  case atStart => exact ⟨[], HK0.out⟩
  case round =>
    obtain ⟨done, hk⟩ := hrel
    clear HK0
    have hle := hk.le
    have hsz := hk.lt
    have HK := hide hk
    obtain ⟨g, hg⟩ : ∃ g, cut f gk = g := ⟨_, rfl⟩
    have hgf : ∀ j, g j < 256 := fun j => by rw [← hg]; exact cut_lt f gk hf j
    have hcell : wr.cell? ⟨w.heap.size, 32, none⟩ = some (.int .i64 gk) := by have := hk.box 32 _ (pfx_last _ _); simpa using this
    have hbox : wr.rangeAt w.heap.size 0 (pfx g gk) := by rw [← hg]; exact hk.box
    have HBOX := hide hbox
    have HG := hide hg
    clear hk hbox hg
    by_cases h1 : 1 ≤ gk
    · have hbt : bit g (gk - 1) = bit f (gk - 1) := by rw [← HG.out]; exact bit_cut f gk _ (by omega)
      have HBT := hide hbt
      clear hbt
      go_wp2_with ((with_reducible refine wpL_load 26 _ ?_); refine ⟨w.heap.size, 0, pfx g gk, _, rfl, by exact HBOX.out, Try.underlying26, rfl, by rw [info26, pfx_length], ?_⟩)
      refine (pBit_sub g gk _ h1 (by omega) hgf).mono ?_
      rintro e w1 ⟨rfl, hb1⟩
      have HK1 := hide (HK.out.next hb1)
      have HB1 := hide (range_below hb1 hsz HBOX.out)
      clear HK HBOX hb1 hsz hcell
      by_cases hbit : bit f (gk - 1) = 0
      · have hb0 : (((bit g (gk - 1) : Nat) : Int) == 0) = true := by rw [HBT.out, hbit]; rfl
        obtain ⟨s, hs⟩ : ∃ s, flip g (gk - 1) = s := ⟨_, rfl⟩
        have HS := hide hs
        have HBIT := hide hbit
        clear hs hbit
        go_wp2_with ((with_reducible refine wpL_load 26 _ ?_); refine ⟨w.heap.size, 0, pfx g gk, _, rfl, by exact HB1.out, Try.underlying26, rfl, by rw [info26, pfx_length], ?_⟩)
        refine (sibling_core g s gk _ h1 (by omega) hgf HS).mono ?_
        rintro e w2 ⟨rfl, hb2⟩
        have HK2 := hide (HK1.out.next hb2)
        clear HK1 HB1 hb2
        have hlen : done.length ≤ 256 := by have e := HK2.out.split; have l := congrArg List.length e; rw [List.length_append] at l; have := els_length f n; omega
        have hnews : (w2.alloc (.cells (pfx s gk).toArray 26)).rangeAt w2.heap.size 0 (pfx s gk) := range_of_row _ (heap_alloc_new w2 _)
        have HNEWS := hide hnews
        have hbase : w.heap.size + 1 ≤ (w2.alloc (.cells (pfx s gk).toArray 26)).heap.size := by have := HK2.out.lt; simp; omega
        have HBASE := hide hbase
        have HSP := hide (hmul done.length hlen)
        clear hnews hbase hlen
        go_wp2_with (first
          | ((with_reducible refine wpL_buildSlice 23 1 _ ?_); refine ⟨_, _, _, by simp only [List.map_toArray, List.map_cons, List.map_nil]; rfl, bslice s gk _, ?_⟩)
          | (at_builtin; refine wpList_append_own _ rfl _ _ 23 rfl (w.heap.size + 1) 26 i0 (.agg zero26) 33 40 Try.underlying23 hi hz0 hz1 hz2 zero26_size (by decide) _ done.length (rows f done) rfl (by exact HK2.out.own.alloc _) ⟨w2.heap.size, 0, none⟩ 1 1 (pfx s gk) rfl (by rw [pfx_length]) (fun j u hj => by rw [Addr.add_mid]; exact HNEWS.out j u hj) (pfx_one s gk) (by exact HSP.out.1) (by exact HSP.out.2) (by exact HBASE.out) ?_))
        intro v' w3 hown hgrow _
        have HK3 := hide ((HK2.out.next ((Below.refl _ _).alloc (Nat.le_refl _) _)).grow (pfx s gk) (by unfold sib; rw [HG.out, HS.out]) hown hgrow h1 HBIT.out)
        have HB3 : Hid (w3.rangeAt w.heap.size 0 (pfx g gk)) := by have := HK3.out.2.1; rw [HG.out] at this; exact this
        clear hown hgrow HK2 HNEWS HBASE HSP HS HBIT
        obtain ⟨p, hp⟩ : ∃ p, cut g (gk - 1) = p := ⟨_, rfl⟩
        have HP := hide hp
        have hpf : p = cut f (gk - 1) := by rw [← hp, ← HG.out]; exact cut_cut f gk (gk - 1) (by omega)
        have HPF := hide hpf
        clear hp hpf
        go_wp2_with ((with_reducible refine wpL_load 26 _ ?_); refine ⟨w.heap.size, 0, pfx g gk, _, rfl, by exact HB3.out, Try.underlying26, rfl, by rw [info26, pfx_length], ?_⟩)
        refine (parent_core g p gk _ h1 (by omega) hgf HP).mono ?_
        rintro e w4 ⟨rfl, hb4⟩
        have HK4 := hide (kept_step p HPF.out hle HK3.out hb4)
        have HT4 := hide (there_below hb4 HK3.out.2.2.2.2.2 HK3.out.2.2.1)
        clear HK3 HB3 hb4
        go_wp2_with ((with_reducible refine wpL_store 26 _ _ ?_); refine ⟨w.heap.size, 0, (pfx p (gk - 1)).toArray, rfl, rfl, by rw [pfx_size]; exact HT4.out, by rw [info26, pfx_size], pfx_all _ _, ?_⟩)
        go_roundg (gk - 1)
        case measure => omega
        case rel => exact ⟨_, HK4.out⟩
      · have hb0 : (((bit g (gk - 1) : Nat) : Int) == 0) = false := by rw [HBT.out]; exact beq_eq_false_iff_ne.2 (by omega)
        have HK3 := hide (HK1.out.miss h1 hbit)
        have HB3 := HB1
        clear HK1 HB1 hbit
        obtain ⟨p, hp⟩ : ∃ p, cut g (gk - 1) = p := ⟨_, rfl⟩
        have HP := hide hp
        have hpf : p = cut f (gk - 1) := by rw [← hp, ← HG.out]; exact cut_cut f gk (gk - 1) (by omega)
        have HPF := hide hpf
        clear hp hpf
        go_wp2_with ((with_reducible refine wpL_load 26 _ ?_); refine ⟨w.heap.size, 0, pfx g gk, _, rfl, by exact HB3.out, Try.underlying26, rfl, by rw [info26, pfx_length], ?_⟩)
        refine (parent_core g p gk _ h1 (by omega) hgf HP).mono ?_
        rintro e w4 ⟨rfl, hb4⟩
        have HK4 := hide (kept_step p HPF.out hle HK3.out hb4)
        have HT4 := hide (there_below hb4 HK3.out.2.2.2.2.2 HK3.out.2.2.1)
        clear HK3 HB3 hb4
        go_wp2_with ((with_reducible refine wpL_store 26 _ _ ?_); refine ⟨w.heap.size, 0, (pfx p (gk - 1)).toArray, rfl, rfl, by rw [pfx_size]; exact HT4.out, by rw [info26, pfx_size], pfx_all _ _, ?_⟩)
        go_roundg (gk - 1)
        case measure => omega
        case rel => exact ⟨_, HK4.out⟩
    · obtain rfl : gk = 0 := by omega
      go_wp2
      go_ret
      have hs := HK.out.split
      rw [els, List.append_nil] at hs
      subst hs
      exact ⟨_, rfl, HK.out.own, HK.out.below⟩

end Go.Proofs.Qxb6630276a.Walks

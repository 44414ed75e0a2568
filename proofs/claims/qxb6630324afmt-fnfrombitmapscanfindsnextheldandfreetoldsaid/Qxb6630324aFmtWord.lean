import Derived.Test.Qxb6630324aFmtFrom
namespace Go.Proofs.Qxb6630324aFmt.Walks
open Go.RowKit

/-- where the words of a Set lie -/
structure SetAt (z : Nat → Nat) (lo m : Nat) (a : Option Addr) (B : Nat) (w : World) : Prop where
  at_ : ∀ i, i < m → ∃ g, a = some ⟨g, 0, none⟩ ∧ g < B ∧ w.cell? ⟨g, i, none⟩ = some (.int .u64 (z (lo + i) : Int))

theorem SetOk.view {z : Nat → Nat} {n lo m : Nat} {v : Value} {B : Nat} {w : World} (h : SetOk z n lo m v B w) : ∃ a cap, v = .slice a m cap ∧ SetAt z lo m a w.heap.size w := by
  rcases h.own.2 with ⟨rfl, h0⟩ | ⟨g, cap, cur, rfl, _, hg, _⟩
  · exact ⟨.none, 0, by rw [h0], ⟨fun i hi => by omega⟩⟩
  · refine ⟨some ⟨g, 0, none⟩, cap, rfl, ⟨fun i hi => ⟨g, rfl, (Array.getElem?_eq_some_iff.1 hg).1, ?_⟩⟩⟩
    rw [h.own.cellAt i (by omega), ws_get z lo m i hi]

theorem SetAt.next {z : Nat → Nat} {lo m : Nat} {a : Option Addr} {B B' : Nat} {w w' : World} (h : SetAt z lo m a B w) (hb : Below B' w w') (hB : B ≤ B') : SetAt z lo m a B w' :=
  ⟨fun i hi => by
    obtain ⟨g, h1, h2, h3⟩ := h.at_ i hi
    exact ⟨g, h1, h2, by rw [hb.cell (p := ⟨g, i, none⟩) (by show g < B'; omega)]; exact h3⟩⟩

/-- word k of the set of the words z -/
def wd (z : Nat → Nat) (lo m k : Nat) : Nat := if lo ≤ k ∧ k < lo + m then z k else 0

set_option maxHeartbeats 400000 in
theorem word_in (z : Nat → Nat) (lo m g cap k : Nat) (w : World) (hl : lo + m ≤ 70000) (h1 : lo ≤ k) (h2 : k < lo + m) (hg : g < w.heap.size)
    (hc : w.cell? ⟨g, k - lo, none⟩ = some (.int .u64 (z k : Int))) :
    Calls Tryf.prog 17 #[.agg #[.int .i64 (lo : Nat), .slice (some ⟨g, 0, none⟩) m cap], .int .i64 (k : Nat)] w fun e w' => e = .returned (.int .u64 (z k)) ∧ Below w.heap.size w w' := by
  have hc2 : ∀ o, (w.alloc o).cell? ⟨g, k - lo, none⟩ = some (.int .u64 (z k : Int)) := fun o => by rw [Below.cell ((Below.refl w.heap.size w).alloc (Nat.le_refl _) o) (by exact hg)]; exact hc
  have i1 : (0 : Int) ≤ (k : Int) - (lo : Int) := by omega
  have i2 : (k : Int) - (lo : Int) < (m : Int) := by omega
  clear hc
  go_enter Tryf.func17, Tryf.ntmps17
  go_wp2
  go_ret
  exact ⟨rfl, (Below.refl _ _).alloc (Nat.le_refl _) _⟩

set_option maxHeartbeats 400000 in
theorem word_low (lo m cap : Nat) (a : Option Addr) (k : Int) (w : World) (hl : lo + m ≤ 70000) (hk : -70000 ≤ k) (h1 : k < lo) :
    Calls Tryf.prog 17 #[.agg #[.int .i64 (lo : Nat), .slice a m cap], .int .i64 k] w fun e w' => e = .returned (.int .u64 0) ∧ Below w.heap.size w w' := by
  have i1 : decide ((0 : Int) ≤ k - (lo : Int)) = false := decide_eq_false (by omega)
  have i2 : ¬ (lo : Int) ≤ k := by omega
  go_enter Tryf.func17, Tryf.ntmps17
  go_wp2
  go_ret
  exact ⟨rfl, (Below.refl _ _).alloc (Nat.le_refl _) _⟩

set_option maxHeartbeats 400000 in
theorem word_high (lo m cap : Nat) (a : Option Addr) (k : Nat) (w : World) (hk : k ≤ 70000) (h1 : lo + m ≤ k) :
    Calls Tryf.prog 17 #[.agg #[.int .i64 (lo : Nat), .slice a m cap], .int .i64 (k : Nat)] w fun e w' => e = .returned (.int .u64 0) ∧ Below w.heap.size w w' := by
  have i1 : (0 : Int) ≤ (k : Int) - (lo : Int) := by omega
  have i2 : ¬ (k : Int) - (lo : Int) < (m : Int) := by omega
  go_enter Tryf.func17, Tryf.ntmps17
  go_wp2
  go_ret
  exact ⟨rfl, (Below.refl _ _).alloc (Nat.le_refl _) _⟩

theorem word_any (z : Nat → Nat) (lo m cap k : Nat) (a : Option Addr) (w : World) (hl : lo + m ≤ 70000) (hk : k ≤ 70000) (hs : SetAt z lo m a w.heap.size w) :
    Calls Tryf.prog 17 #[.agg #[.int .i64 (lo : Nat), .slice a m cap], .int .i64 (k : Nat)] w fun e w' => e = .returned (.int .u64 (wd z lo m k)) ∧ Below w.heap.size w w' := by
  unfold wd
  by_cases h : lo ≤ k ∧ k < lo + m
  · rw [if_pos h]
    obtain ⟨g, rfl, hg, hc⟩ := hs.at_ (k - lo) (by omega)
    rw [show lo + (k - lo) = k by omega] at hc
    exact word_in z lo m g cap k w hl h.1 h.2 hg hc
  · rw [if_neg h]
    by_cases h2 : k < lo
    · exact word_low lo m cap a k w hl (by omega) (by omega)
    · exact word_high lo m cap a k w hk (by omega)


theorem bel_alloc (w : World) (o : Obj) : Below w.heap.size w (w.alloc o) := (Below.refl _ _).alloc (Nat.le_refl _) _

set_option maxHeartbeats 400000 in
theorem zzword_any (z : Nat → Nat) (lo m cap k : Nat) (a : Option Addr) (w : World) (hl : lo + m ≤ 70000) (hk : k ≤ 70000) (hs : SetAt z lo m a w.heap.size w) :
    Calls Tryf.prog 7 #[.agg #[.int .i64 (lo : Nat), .slice a m cap], .int .i64 (k : Nat)] w fun e w' => e = .returned (.int .u64 (wd z lo m k)) ∧ Below w.heap.size w w' := by
  have HS := hide ((hs.next (bel_alloc w (.cells #[.int .i64 (lo : Nat), .slice a m cap] 26)) (Nat.le_refl _)))
  clear hs
  go_enter Tryf.func7, Tryf.ntmps7
  go_wp2_with fail
  refine (word_any z lo m cap k a _ hl hk ⟨fun i hi => ?_⟩).mono ?_
  · obtain ⟨g, h1, h2, h3⟩ := HS.out.at_ i hi
    exact ⟨g, h1, by simp; omega, h3⟩
  rintro e w1 ⟨rfl, hb⟩
  go_wp2
  go_ret
  exact ⟨rfl, (bel_alloc w _).trans (hb.mono (by simp))⟩

set_option maxHeartbeats 400000 in
theorem zzword_low (lo m cap : Nat) (a : Option Addr) (k : Int) (w : World) (hl : lo + m ≤ 70000) (hk : -70000 ≤ k) (h1 : k < lo) :
    Calls Tryf.prog 7 #[.agg #[.int .i64 (lo : Nat), .slice a m cap], .int .i64 k] w fun e w' => e = .returned (.int .u64 0) ∧ Below w.heap.size w w' := by
  go_enter Tryf.func7, Tryf.ntmps7
  go_wp2_with fail
  refine (word_low lo m cap a k _ hl hk h1).mono ?_
  rintro e w1 ⟨rfl, hb⟩
  go_wp2
  go_ret
  exact ⟨rfl, (bel_alloc w _).trans (hb.mono (by simp))⟩

set_option maxHeartbeats 400000 in
theorem zzlow_any (lo m cap : Nat) (a : Option Addr) (w : World) :
    Calls Tryf.prog 10 #[.agg #[.int .i64 (lo : Nat), .slice a m cap]] w fun e w' => e = .returned (.int .i64 (lo : Nat)) ∧ Below w.heap.size w w' := by
  go_enter Tryf.func10, Tryf.ntmps10
  go_wp2
  go_ret
  exact ⟨rfl, bel_alloc w _⟩

set_option maxHeartbeats 400000 in
theorem zzwords_any (lo m cap : Nat) (a : Option Addr) (w : World) :
    Calls Tryf.prog 11 #[.agg #[.int .i64 (lo : Nat), .slice a m cap]] w fun e w' => e = .returned (.slice a m cap) ∧ Below w.heap.size w w' := by
  go_enter Tryf.func11, Tryf.ntmps11
  go_wp2
  go_ret
  exact ⟨rfl, bel_alloc w _⟩

set_option maxHeartbeats 400000 in
theorem end_any (lo m cap : Nat) (a : Option Addr) (w : World) (hl : lo + m ≤ 70000) :
    Calls Tryf.prog 22 #[.agg #[.int .i64 (lo : Nat), .slice a m cap]] w fun e w' => e = .returned (.int .i64 ((lo : Int) + (m : Int))) ∧ Below w.heap.size w w' := by
  go_enter Tryf.func22, Tryf.ntmps22
  go_wp2
  go_ret
  exact ⟨rfl, bel_alloc w _⟩

end Go.Proofs.Qxb6630324aFmt.Walks

import Derived.Test.Qxb6630276aWalks
import Derived.OpenShut
namespace Go.Proofs.Qxb6630276a.Walks
open Go.ChangeShapes Go.WideShapes Go.ChangeAt Go.RowKit

theorem cells5 : Try.prog.cellsOf 5 = 1 := by kernel_rfl
theorem cells22 : Try.prog.cellsOf 22 = 32 := by kernel_rfl

def byteOf : Option Value → Nat
  | some (.int _ n) => n.toNat
  | _ => 0

/-- an argument of type [32]byte: its 32 numbers -/
theorem open_arr {H : Type} {enc : TypeId × Value → H} {W : World} {r : Reach} {b0 base : Nat} {spare : Nat → Bool} {held : Bool} {v : Value} {d : DataW H} {p : List MemPlace}
    (hv : Value.okWide Try.prog W r b0 22 v) (h : DataW.Trod enc Try.prog W base spare held 22 v d p) : ∃ f : Nat → Nat, (∀ j, f j < 256) ∧ v = .agg (A f).toArray := by
  obtain ⟨cs, rfl, hsz, _⟩ : ∃ cs, v = .agg cs ∧ cs.size = Try.prog.cellsOf 22 ∧ Row.okWide Try.prog W r b0 22 cs := by
    simpa [Value.okWide, Try.underlying22] using hv
  rw [cells22] at hsz
  obtain ⟨fuel, hf⟩ := h
  obtain ⟨xs, m, _, _, _, hl, hx⟩ := DataW.trod_array Try.underlying22 hf
  have hel : ∀ i, i < 32 → ∃ n : Int, cs.toList[i]? = some (.int .u8 n) ∧ 0 ≤ n ∧ n ≤ 255 := by
    intro i hi
    have h1 := hx i hi
    rw [cells5, Nat.mul_one, List.getElem?_eq_getElem (show i < xs.length by omega)] at h1
    obtain ⟨n, e, _, wf⟩ := DataW.trod_int Try.underlying5 h1
    refine ⟨n, ?_, bounds_u8 wf⟩
    simp only [Value.cells] at e
    have h2 : ((cs.toList.drop i).take 1)[0]? = some (.int .u8 n) := by rw [e]; rfl
    rw [List.getElem?_take, if_pos (by omega), List.getElem?_drop] at h2
    simpa using h2
  refine ⟨fun i => byteOf (cs.toList[i]?), fun j => ?_, ?_⟩
  · show byteOf (cs.toList[j]?) < 256
    by_cases hj : j < 32
    · obtain ⟨n, h1, h2, h3⟩ := hel j hj
      rw [h1]; show n.toNat < 256; omega
    · rw [List.getElem?_eq_none (by simp; omega)]; show 0 < 256; omega
  · congr 1
    apply Array.toList_inj.1
    apply List.ext_getElem?
    intro j
    by_cases hj : j < 32
    · obtain ⟨n, h1, h2, h3⟩ := hel j hj
      rw [List.toList_toArray, A_get _ j hj, h1]
      show some (Value.int .u8 n) = some (Value.int .u8 (n.toNat : Int))
      rw [Int.toNat_of_nonneg h2]
    · rw [List.getElem?_eq_none (by simp; omega), List.toList_toArray, List.getElem?_eq_none (by rw [A_length]; omega)]

end Go.Proofs.Qxb6630276a.Walks

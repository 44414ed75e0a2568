/-
  DERIVED: THE SHELF's CONTRACTS AT THIS DUMP, IN PLAIN WORDS (tools/lay-plain.mjs out of 'Qxb6630324aFmtShelf.lean', which tools/lay-shelf.mjs wrote): THE SAME DECLARATIONS UNDER THE SAME NAMES: 'import', 'namespace', 'open', 'def', 'theorem' AND NOTHING ELSE: no command of the shelf's: FOR A HAND-IN. Each laying: the table of numbers ('.._ren') and one theorem, a field a fact of the dump's own or the kernel's comparison; each contract: ONE APPLICATION.
-/
import Derived.Shelf.Small.Bits
import Derived.Shelf.Strconv.Itoa0
import Derived.Ground.SlgnProg
import Derived.Shelf.SlicesE.Clone
import Derived.Shelf.Spec.TrailingZeros
import Derived.Test.Qxb6630324aFmtProg
namespace Go.Proofs
open Go.Shelf
def Tryf.lays134_ren : Go.Shelf.Ren := ⟨fun | 134 => 14 | 129 => 20 | n => n, fun | 53 => 24 | 3 => 3 | 4 => 4 | 46 => 34 | 5 => 5 | 9 => 9 | n => n, fun | n => n⟩
theorem Tryf.lays134 : Go.Proofs.Lays.n134 Tryf.prog Tryf.lays134_ren := {
  mixed := by kernel_rfl
  f129 := Tryf.func20.trans (congrArg some (by kernel_rfl))
  f134 := Tryf.func14.trans (congrArg some (by kernel_rfl))
  t3 := Tryf.underlying3
  a3 := Tryf.isAgg3
  z3 := Tryf.sizeOf3
  v3 := Tryf.zeroValue3
  t4 := Tryf.underlying4
  a4 := Tryf.isAgg4
  z4 := Tryf.sizeOf4
  v4 := Tryf.zeroValue4
  t5 := Tryf.underlying5
  a5 := Tryf.isAgg5
  z5 := Tryf.sizeOf5
  v5 := Tryf.zeroValue5
  t9 := Tryf.underlying9
  a9 := Tryf.isAgg9
  z9 := Tryf.sizeOf9
  v9 := Tryf.zeroValue9
  t46 := Tryf.underlying34
  a46 := Tryf.isAgg34
  z46 := Tryf.sizeOf34
  v46 := Tryf.zeroValue34
  t53 := Tryf.underlying24
  a53 := Tryf.isAgg24
  z53 := Tryf.sizeOf24
  v53 := Tryf.zeroValue24 }
/-- bits.LeadingZeros64: "LeadingZeros64 returns the number of leading zero bits in x; the result is 64 for x == 0.": IT RETURNS '64 - Lib.bitLen x'; the world is as it was. ITS CALLEE bits.Len64 IS MET BY ITS OWN CONTRACT OFF THE SHELF (lay that first): entered in place it sends the kernel out of memory. (LAID: no walk: one application.) -/
theorem Tryf.bits_LeadingZeros64 (x : Int) (w : World) (h0 : 0 ≤ x) (h1 : x ≤ 18446744073709551615) :
    Calls Tryf.prog 14 #[.int .u64 x] w fun e w' => e = .returned (.int .i64 (64 - (Lib.bitLen x.toNat : Int))) ∧ w' = w := Any.bits_LeadingZeros64 Tryf.lays134 x w h0 h1
def Tryf.lays129_ren : Go.Shelf.Ren := ⟨fun | 129 => 20 | n => n, fun | 53 => 24 | 3 => 3 | 4 => 4 | 46 => 34 | 5 => 5 | 9 => 9 | n => n, fun | n => n⟩
theorem Tryf.lays129 : Go.Proofs.Lays.n129 Tryf.prog Tryf.lays129_ren := {
  mixed := by kernel_rfl
  f129 := Tryf.func20.trans (congrArg some (by kernel_rfl))
  t3 := Tryf.underlying3
  a3 := Tryf.isAgg3
  z3 := Tryf.sizeOf3
  v3 := Tryf.zeroValue3
  t4 := Tryf.underlying4
  a4 := Tryf.isAgg4
  z4 := Tryf.sizeOf4
  v4 := Tryf.zeroValue4
  t5 := Tryf.underlying5
  a5 := Tryf.isAgg5
  z5 := Tryf.sizeOf5
  v5 := Tryf.zeroValue5
  t9 := Tryf.underlying9
  a9 := Tryf.isAgg9
  z9 := Tryf.sizeOf9
  v9 := Tryf.zeroValue9
  t46 := Tryf.underlying34
  a46 := Tryf.isAgg34
  z46 := Tryf.sizeOf34
  v46 := Tryf.zeroValue34
  t53 := Tryf.underlying24
  a53 := Tryf.isAgg24
  z53 := Tryf.sizeOf24
  v53 := Tryf.zeroValue24 }
/-- bits.Len64: "Len64 returns the minimum number of bits required to represent x; the result is 0 for x == 0.": IT RETURNS 'Lib.bitLen x'; the world is as it was. ('h0', 'h1': x is a uint64.) (LAID: no walk: one application.) -/
theorem Tryf.bits_Len64 (x : Int) (w : World) (h0 : 0 ≤ x) (h1 : x ≤ 18446744073709551615) :
    Calls Tryf.prog 20 #[.int .u64 x] w fun e w' => e = .returned (.int .i64 (Lib.bitLen x.toNat)) ∧ w' = w := Any.bits_Len64 Tryf.lays129 x w h0 h1
def Tryf.laysSlE041_f16_ren : Go.Shelf.Ren := ⟨fun | 41 => 16 | n => n, fun | 22 => 22 | 23 => 24 | 4 => 4 | n => n, fun | n => n⟩
theorem Tryf.laysSlE041_f16 : Go.Proofs.SlLaysE0.n41 Tryf.prog Tryf.laysSlE041_f16_ren := {
  mixed := by kernel_rfl
  f41 := ⟨Tryf.f16.name, by decide, Tryf.func16.trans (congrArg some (by kernel_rfl))⟩
  t4 := Tryf.underlying4
  a4 := Tryf.isAgg4
  z4 := Tryf.sizeOf4
  v4 := Tryf.zeroValue4
  t22 := Tryf.underlying22
  a22 := Tryf.isAgg22
  z22 := Tryf.sizeOf22
  v22 := Tryf.zeroValue22 }
open Go.RowKit Go.Lib in
/-- slices.Clone: "Clone returns a copy of the slice. The elements are copied using assignment, so this is a shallow clone. The result may have additional unused capacity. The result preserves the nilness of s.": OF A SLICE THAT IS NOT nil IT RETURNS A SLICE THAT IS NOT nil, OF THE SAME CELLS, IN MEMORY OF THE CALL's OWN ('ownsRow': the how-to's 6f); below the heap's size at the call all is as it was. (LAID AT THE INSTANCE 'slices.Clone[[]uint64,uint64]': no walk: one application.) -/
theorem Tryf.slices_Clone (i0 : TypeInfo) (z : Value) (size bytes : Nat) (hi : Tryf.prog.info? 24 = some i0) (hz0 : i0.zero = some z) (hz1 : i0.size = size) (hz2 : i0.bytes = bytes) (hzs : z.cells.size = size) (hsz : 0 < size) (z23 : ∀ w, (Go.sizeOf 24).run Tryf.prog w = .ok size w) (b off n c : Nat) (news : List Value) (w : World) (hl : news.length = n * size) (hn : n ≤ maxLen) (hbig : n * bytes ≤ 140737488355328) (hc : ∀ j u, news[j]? = some u → w.cell? ⟨b, off + j, none⟩ = some u) (h1 : ∀ u ∈ news, u.oneCell' = true) :
    Calls Tryf.prog 16 #[.slice (some ⟨b, off, none⟩) n c] w fun e w' => ∃ v', e = .returned v' ∧ w'.ownsRow w.heap.size 24 size v' n news ∧ v' ≠ .slice none 0 0 ∧ Below w.heap.size w w' := AnyE.slices_Clone Tryf.laysSlE041_f16 i0 z size bytes hi hz0 hz1 hz2 hzs hsz z23 b off n c news w hl hn hbig hc h1
open Go.RowKit Go.Lib in
/-- The same at nil: nil comes back; the world is as it was; nothing is asked of the element's type. (LAID AT THE INSTANCE 'slices.Clone[[]uint64,uint64]': no walk: one application.) -/
theorem Tryf.slices_Clone_nil (n c : Nat) (w : World) :
    Calls Tryf.prog 16 #[.slice none n c] w fun e w' => e = .returned (.slice none 0 0) ∧ w' = w := AnyE.slices_Clone_nil Tryf.laysSlE041_f16 n c w
def Tryf.lays7_29_ren : Go.Shelf.Ren := ⟨fun | 29 => 23 | n => n, fun | 22 => 24 | 3 => 3 | 4 => 4 | 25 => 34 | 54 => 41 | 0 => 0 | 5 => 5 | n => n, fun | 1 => 0 | n => n⟩
theorem Tryf.lays7_29 : Go.Proofs.Lays7.n29 Tryf.prog Tryf.lays7_29_ren := {
  mixed := by kernel_rfl
  f29 := Tryf.func23.trans (congrArg some (by kernel_rfl))
  t0 := Tryf.underlying0
  a0 := Tryf.isAgg0
  z0 := Tryf.sizeOf0
  v0 := Tryf.zeroValue0
  i0 := by kernel_rfl
  t3 := Tryf.underlying3
  a3 := Tryf.isAgg3
  z3 := Tryf.sizeOf3
  v3 := Tryf.zeroValue3
  i3 := by kernel_rfl
  t4 := Tryf.underlying4
  a4 := Tryf.isAgg4
  z4 := Tryf.sizeOf4
  v4 := Tryf.zeroValue4
  i4 := by kernel_rfl
  t5 := Tryf.underlying5
  a5 := Tryf.isAgg5
  z5 := Tryf.sizeOf5
  v5 := Tryf.zeroValue5
  i5 := by kernel_rfl
  t22 := Tryf.underlying24
  a22 := Tryf.isAgg24
  z22 := Tryf.sizeOf24
  v22 := Tryf.zeroValue24
  i22 := by kernel_rfl
  t25 := Tryf.underlying34
  a25 := Tryf.isAgg34
  z25 := Tryf.sizeOf34
  v25 := Tryf.zeroValue34
  i25 := by kernel_rfl
  t54 := Tryf.underlying41
  a54 := Tryf.isAgg41
  z54 := Tryf.sizeOf41
  g1 := by kernel_rfl }
/-- tz -/
theorem Tryf.bits_TrailingZeros64 (x : Nat) (w : World) (hx : x < 18446744073709551616) (hT : x ≠ 0 → TabAt 0 Lib.deBruijn64tab w) :
    Calls Tryf.prog 23 #[.int .u64 x] w fun e w' => e = .returned (.int .i64 (Lib.ctz 64 x)) ∧ w' = w := Any7.bits_TrailingZeros64 Tryf.lays7_29 x hx w hT
end Go.Proofs

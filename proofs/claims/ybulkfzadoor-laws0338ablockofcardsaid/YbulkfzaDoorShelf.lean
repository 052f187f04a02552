/-
  DERIVED: THE SHELF's CONTRACTS AT THIS DUMP, IN PLAIN WORDS (tools/lay-plain.mjs out of 'YbulkfzaDoorShelf.lean', which tools/lay-shelf.mjs wrote): THE SAME DECLARATIONS UNDER THE SAME NAMES: 'import', 'namespace', 'open', 'def', 'theorem' AND NOTHING ELSE: no command of the shelf's: FOR A HAND-IN. Each laying: the table of numbers ('.._ren') and one theorem, a field a fact of the dump's own or the kernel's comparison; each contract: ONE APPLICATION.
-/
import Derived.Shelf.Strconv.Itoa0
import Derived.Ground.SlgnProg
import Derived.Shelf.Spec.TrailingZeros
import Derived.Shelf.SlicesE.Delete
import Derived.Test.YbulkfzaDoorProg
namespace Go.Proofs
open Go.Shelf
def Ybad.lays129_ren : Go.Shelf.Ren := ⟨fun | 129 => 13 | n => n, fun | 53 => 26 | 3 => 3 | 4 => 4 | 46 => 35 | 5 => 5 | 9 => 9 | n => n, fun | n => n⟩
theorem Ybad.lays129 : Go.Proofs.Lays.n129 Ybad.prog Ybad.lays129_ren := {
  mixed := by kernel_rfl
  f129 := Ybad.func13.trans (congrArg some (by kernel_rfl))
  t3 := Ybad.underlying3
  a3 := Ybad.isAgg3
  z3 := Ybad.sizeOf3
  v3 := Ybad.zeroValue3
  t4 := Ybad.underlying4
  a4 := Ybad.isAgg4
  z4 := Ybad.sizeOf4
  v4 := Ybad.zeroValue4
  t5 := Ybad.underlying5
  a5 := Ybad.isAgg5
  z5 := Ybad.sizeOf5
  v5 := Ybad.zeroValue5
  t9 := Ybad.underlying9
  a9 := Ybad.isAgg9
  z9 := Ybad.sizeOf9
  v9 := Ybad.zeroValue9
  t46 := Ybad.underlying35
  a46 := Ybad.isAgg35
  z46 := Ybad.sizeOf35
  v46 := Ybad.zeroValue35
  t53 := Ybad.underlying26
  a53 := Ybad.isAgg26
  z53 := Ybad.sizeOf26
  v53 := Ybad.zeroValue26 }
/-- bits.Len64: "Len64 returns the minimum number of bits required to represent x; the result is 0 for x == 0.": IT RETURNS 'Lib.bitLen x'; the world is as it was. ('h0', 'h1': x is a uint64.) (LAID: no walk: one application.) -/
theorem Ybad.bits_Len64 (x : Int) (w : World) (h0 : 0 ≤ x) (h1 : x ≤ 18446744073709551615) :
    Calls Ybad.prog 13 #[.int .u64 x] w fun e w' => e = .returned (.int .i64 (Lib.bitLen x.toNat)) ∧ w' = w := Any.bits_Len64 Ybad.lays129 x w h0 h1
def Ybad.laysSlE45_f15_ren : Go.Shelf.Ren := ⟨fun | 45 => 15 | n => n, fun | 22 => 27 | 23 => 2 | 3 => 3 | 4 => 4 | 0 => 0 | n => n, fun | n => n⟩
theorem Ybad.laysSlE45_f15 : Go.Proofs.SlLaysE.n45 Ybad.prog Ybad.laysSlE45_f15_ren := {
  mixed := by kernel_rfl
  f45 := ⟨Ybad.f15.name, by decide, Ybad.func15.trans (congrArg some (by kernel_rfl))⟩
  t0 := Ybad.underlying0
  a0 := Ybad.isAgg0
  z0 := Ybad.sizeOf0
  v0 := Ybad.zeroValue0
  t3 := Ybad.underlying3
  a3 := Ybad.isAgg3
  z3 := Ybad.sizeOf3
  v3 := Ybad.zeroValue3
  t4 := Ybad.underlying4
  a4 := Ybad.isAgg4
  z4 := Ybad.sizeOf4
  v4 := Ybad.zeroValue4
  t22 := Ybad.underlying27
  a22 := Ybad.isAgg27
  z22 := Ybad.sizeOf27
  v22 := Ybad.zeroValue27
  a23 := Ybad.isAgg2
  z23 := Ybad.sizeOf2 }
open Go.RowKit Go.Lib Go.Sort in
/-- slices.Delete: "Delete modifies s in place by removing the elements s[i:j], and returns the modified slice. .. Delete zeroes the elements s[len(s)-(j-i):len(s)].": FOR i ≤ j ≤ len(s) IT RETURNS THE SLICE CUT TO len(s) - (j - i) ELEMENTS; ITS CELLS HOLD what stood ahead of i, what stood from j on, then j - i zero values ('zr': the element whose 'enc' is the type's zero value). (LAID AT THE INSTANCE 'slices.Delete[[]int64,int64]': no walk: one application.) -/
theorem Ybad.slices_Delete {α : Type} [Inhabited α] (enc : α → Value) (h1 : OneCell enc) (zr : α) (v23 : ∀ w, (zeroValue 2).run Ybad.prog w = .ok (enc zr) w) (i0 : TypeInfo) (hi0 : Ybad.prog.info? 2 = some i0) (hz1 : i0.size = 1) (blk off cap i j : Nat) (d : Array α) (w : World) (hH : Holds enc w blk off d) (hcap : d.size ≤ cap) (hm : cap ≤ 9223372036854775807) (hij : i ≤ j) (hj : j ≤ d.size) :
    Calls Ybad.prog 15 #[.slice (some ⟨blk, off, none⟩) d.size cap, .int .i64 i, .int .i64 j] w fun e w' => e = .returned (.slice (some ⟨blk, off, none⟩) (d.size - (j - i)) cap) ∧ ∃ q, w' = putRow enc (Sort.ahead w q) blk off (d.toList.take i ++ d.toList.drop j ++ List.replicate (j - i) zr).toArray := AnyE.slices_Delete Ybad.laysSlE45_f15 enc h1 zr v23 i0 hi0 hz1 blk off cap i j d w hH hcap hm hij hj
def Ybad.lays7n29_ren : Go.Shelf.Ren := ⟨fun | 29 => 12 | n => n, fun | 22 => 26 | 3 => 3 | 4 => 4 | 25 => 35 | 54 => 49 | 0 => 0 | 5 => 5 | n => n, fun | 1 => 0 | n => n⟩
theorem Ybad.lays7n29 : Go.Proofs.Lays7.n29 Ybad.prog Ybad.lays7n29_ren := {
  mixed := by kernel_rfl
  f29 := Ybad.func12.trans (congrArg some (by kernel_rfl))
  t0 := Ybad.underlying0
  a0 := Ybad.isAgg0
  z0 := Ybad.sizeOf0
  v0 := Ybad.zeroValue0
  i0 := by kernel_rfl
  t3 := Ybad.underlying3
  a3 := Ybad.isAgg3
  z3 := Ybad.sizeOf3
  v3 := Ybad.zeroValue3
  i3 := by kernel_rfl
  t4 := Ybad.underlying4
  a4 := Ybad.isAgg4
  z4 := Ybad.sizeOf4
  v4 := Ybad.zeroValue4
  i4 := by kernel_rfl
  t5 := Ybad.underlying5
  a5 := Ybad.isAgg5
  z5 := Ybad.sizeOf5
  v5 := Ybad.zeroValue5
  i5 := by kernel_rfl
  t22 := Ybad.underlying26
  a22 := Ybad.isAgg26
  z22 := Ybad.sizeOf26
  v22 := Ybad.zeroValue26
  i22 := by kernel_rfl
  t25 := Ybad.underlying35
  a25 := Ybad.isAgg35
  z25 := Ybad.sizeOf35
  v25 := Ybad.zeroValue35
  i25 := by kernel_rfl
  t54 := Ybad.underlying49
  a54 := Ybad.isAgg49
  z54 := Ybad.sizeOf49
  g1 := by kernel_rfl }
theorem Ybad.bits_TrailingZeros64 (x : Nat) (hx : x < 18446744073709551616) (w : World) (hT : x ≠ 0 → TabAt 0 Lib.deBruijn64tab w) :
    Calls Ybad.prog 12 #[.int .u64 x] w fun e w' => e = .returned (.int .i64 (Lib.ctz 64 x)) ∧ w' = w := Any7.bits_TrailingZeros64 Ybad.lays7n29 x hx w hT
end Go.Proofs

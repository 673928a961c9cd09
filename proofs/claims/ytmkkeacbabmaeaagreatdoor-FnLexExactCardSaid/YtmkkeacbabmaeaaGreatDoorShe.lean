/-
  DERIVED: THE SHELF's CONTRACTS AT THIS DUMP, IN PLAIN WORDS (tools/lay-plain.mjs out of 'TryzEncShelf.lean', which tools/lay-shelf.mjs wrote): THE SAME DECLARATIONS UNDER THE SAME NAMES: 'import', 'namespace', 'open', 'def', 'theorem' AND NOTHING ELSE: no command of the shelf's: FOR A HAND-IN. Each laying: the table of numbers ('.._ren') and one theorem, a field a fact of the dump's own or the kernel's comparison; each contract: ONE APPLICATION.
-/
import Derived.Shelf.Lays7
import Derived.Shelf.Spec.EncodeRune
import Derived.Test.YtmkkeacbabmaeaaGreatDoorProg
namespace Go.Proofs
open Go.Shelf
def Tryz.lays7n30_ren : Go.Shelf.Ren := ⟨fun | 30 => 78 | 47 => 87 | n => n, fun | 30 => 89 | 21 => 21 | 3 => 3 | 27 => 120 | 4 => 4 | 5 => 5 | 0 => 0 | 25 => 134 | n => n, fun | n => n⟩
theorem Tryz.lays7n30 : Go.Proofs.Lays7.n30 Tryz.prog Tryz.lays7n30_ren := {
  mixed := by kernel_rfl
  f30 := Tryz.func78.trans (congrArg some (by kernel_rfl))
  f47 := Tryz.func87.trans (congrArg some (by kernel_rfl))
  t0 := Tryz.underlying0
  a0 := Tryz.isAgg0
  z0 := Tryz.sizeOf0
  v0 := Tryz.zeroValue0
  i0 := by kernel_rfl
  t3 := Tryz.underlying3
  a3 := Tryz.isAgg3
  z3 := Tryz.sizeOf3
  v3 := Tryz.zeroValue3
  i3 := by kernel_rfl
  t4 := Tryz.underlying4
  a4 := Tryz.isAgg4
  z4 := Tryz.sizeOf4
  v4 := Tryz.zeroValue4
  i4 := by kernel_rfl
  t5 := Tryz.underlying5
  a5 := Tryz.isAgg5
  z5 := Tryz.sizeOf5
  v5 := Tryz.zeroValue5
  i5 := by kernel_rfl
  t21 := Tryz.underlying21
  a21 := Tryz.isAgg21
  z21 := Tryz.sizeOf21
  v21 := Tryz.zeroValue21
  i21 := by kernel_rfl
  t25 := Tryz.underlying134
  a25 := Tryz.isAgg134
  z25 := Tryz.sizeOf134
  v25 := Tryz.zeroValue134
  i25 := by kernel_rfl
  t27 := Tryz.underlying120
  a27 := Tryz.isAgg120
  z27 := Tryz.sizeOf120
  v27 := Tryz.zeroValue120
  i27 := by kernel_rfl
  t30 := Tryz.underlying89
  a30 := Tryz.isAgg89
  z30 := Tryz.sizeOf89
  v30 := Tryz.zeroValue89
  i30 := by kernel_rfl }
open Go.RowKit Go.Lib in
theorem Tryz.utf8_EncodeRune (b off len cap : Nat) (r : Int) (hlo : -2147483648 ≤ r) (hhi : r ≤ 2147483647) (w : World) (hl : (Lib.runeCells r).length ≤ len)
    (hc : ∀ j, j < (Lib.runeCells r).length → (w.cell? ⟨b, off + j, none⟩).isSome = true) (hf : ∀ j, j < (Lib.runeCells r).length → w.frozen? ⟨b, off + j, none⟩ = false) :
    Calls Tryz.prog 78 #[.slice (some ⟨b, off, none⟩) len cap, .int .i32 r] w fun e w' => e = .returned (.int .i64 (Lib.runeCells r).length) ∧ w' = w.setCells b off (Lib.runeCells r) := Any7.utf8_EncodeRune Tryz.lays7n30 b off len cap r hlo hhi w hl hc hf
end Go.Proofs

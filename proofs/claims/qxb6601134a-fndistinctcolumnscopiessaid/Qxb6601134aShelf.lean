/-
  THE SHELF's CONTRACTS OF slices.Index, Contains, Clone at []string AT THIS DUMP, IN PLAIN WORDS (written by the kit's own tools lay-shelf.mjs, lay-plain.mjs for this program).
-/
import Derived.Shelf.Slices.Turned
import Derived.Shelf.Slices.Clone
import Derived.Test.Qxb6601134aProg
namespace Go.Proofs
open Go.Shelf
def Try.lays109_ren : Go.Shelf.Ren := ⟨fun | 109 => 19 | n => n, fun | 31 => 29 | 9 => 9 | 3 => 3 | 0 => 0 | 4 => 4 | n => n, fun | n => n⟩
theorem Try.lays109 : Go.Proofs.Lays.n109 Try.prog Try.lays109_ren := {
  mixed := by kernel_rfl
  f109 := Try.func19.trans (congrArg some (by kernel_rfl))
  t0 := Try.underlying0
  a0 := Try.isAgg0
  z0 := Try.sizeOf0
  v0 := Try.zeroValue0
  t3 := Try.underlying3
  a3 := Try.isAgg3
  z3 := Try.sizeOf3
  v3 := Try.zeroValue3
  t4 := Try.underlying4
  a4 := Try.isAgg4
  z4 := Try.sizeOf4
  v4 := Try.zeroValue4
  t9 := Try.underlying9
  a9 := Try.isAgg9
  z9 := Try.sizeOf9
  v9 := Try.zeroValue9
  t31 := Try.underlying29
  a31 := Try.isAgg29
  z31 := Try.sizeOf29
  v31 := Try.zeroValue29 }
open Go.Lib in
theorem Try.slices_Index_string (b off n c : Nat) (zs : List ByteArray) (x : ByteArray) (w : World) (hz : n ≤ zs.length) (hbig : n ≤ 9223372036854775807) (hc : ∀ j, j < zs.length → w.cell? ⟨b, off + j, none⟩ = some (.string (zs.getD j ByteArray.empty))) :
    Calls Try.prog 19 #[.slice (some ⟨b, off, none⟩) n c, .string x] w fun e w' => e = .returned (.int .i64 (Lib.idxOfS (zs.take n) x)) ∧ w' = w := Any.slices_Index_string Try.lays109 b off n c zs x w hz hbig hc
open Go.Lib in
theorem Try.slices_Index_string_empty (a : Option Addr) (c : Nat) (x : ByteArray) (w : World) :
    Calls Try.prog 19 #[.slice a 0 c, .string x] w fun e w' => e = .returned (.int .i64 (Lib.idxOfS [] x)) ∧ w' = w := Any.slices_Index_string_empty Try.lays109 a c x w
def Try.lays110_ren : Go.Shelf.Ren := ⟨fun | 110 => 17 | 109 => 19 | n => n, fun | 31 => 29 | 9 => 9 | 4 => 4 | 3 => 3 | 0 => 0 | n => n, fun | n => n⟩
theorem Try.lays110 : Go.Proofs.Lays.n110 Try.prog Try.lays110_ren := {
  mixed := by kernel_rfl
  f109 := Try.func19.trans (congrArg some (by kernel_rfl))
  f110 := Try.func17.trans (congrArg some (by kernel_rfl))
  t0 := Try.underlying0
  a0 := Try.isAgg0
  z0 := Try.sizeOf0
  v0 := Try.zeroValue0
  t3 := Try.underlying3
  a3 := Try.isAgg3
  z3 := Try.sizeOf3
  v3 := Try.zeroValue3
  t4 := Try.underlying4
  a4 := Try.isAgg4
  z4 := Try.sizeOf4
  v4 := Try.zeroValue4
  t9 := Try.underlying9
  a9 := Try.isAgg9
  z9 := Try.sizeOf9
  v9 := Try.zeroValue9
  t31 := Try.underlying29
  a31 := Try.isAgg29
  z31 := Try.sizeOf29
  v31 := Try.zeroValue29 }
open Go.Lib in
theorem Try.slices_Contains_string (b off n c : Nat) (zs : List ByteArray) (x : ByteArray) (w : World) (hz : n ≤ zs.length) (hbig : n ≤ 9223372036854775807) (hc : ∀ j, j < zs.length → w.cell? ⟨b, off + j, none⟩ = some (.string (zs.getD j ByteArray.empty))) :
    Calls Try.prog 17 #[.slice (some ⟨b, off, none⟩) n c, .string x] w fun e w' => e = .returned (.bool (Lib.containsS (zs.take n) x)) ∧ w' = w := Any.slices_Contains_string Try.lays110 b off n c zs x w hz hbig hc
open Go.Lib in
theorem Try.slices_Contains_string_empty (a : Option Addr) (c : Nat) (x : ByteArray) (w : World) :
    Calls Try.prog 17 #[.slice a 0 c, .string x] w fun e w' => e = .returned (.bool false) ∧ w' = w := Any.slices_Contains_string_empty Try.lays110 a c x w
def Try.laysNm216_ren : Go.Shelf.Ren := ⟨fun | 16 => 18 | n => n, fun | 24 => 29 | 9 => 9 | 4 => 4 | n => n, fun | n => n⟩
theorem Try.laysNm216 : Go.Proofs.Lays2.n16 Try.prog Try.laysNm216_ren := {
  mixed := by kernel_rfl
  f16 := Try.func18.trans (congrArg some (by kernel_rfl))
  t4 := Try.underlying4
  a4 := Try.isAgg4
  z4 := Try.sizeOf4
  v4 := Try.zeroValue4
  t9 := Try.underlying9
  a9 := Try.isAgg9
  z9 := Try.sizeOf9
  v9 := Try.zeroValue9
  t24 := Try.underlying29
  a24 := Try.isAgg29
  z24 := Try.sizeOf29
  v24 := Try.zeroValue29
  i9 := by kernel_rfl }
open Go.RowKit Go.Lib in
theorem Try.slices_Clone_string (b off n c : Nat) (zs : List ByteArray) (w : World) (hz : n ≤ zs.length) (hbig : n * 16 ≤ 140737488355328) (hc : ∀ j, j < zs.length → w.cell? ⟨b, off + j, none⟩ = some (.string (zs.getD j ByteArray.empty))) :
    Calls Try.prog 18 #[.slice (some ⟨b, off, none⟩) n c] w fun e w' => ∃ v', e = .returned v' ∧ w'.ownsRow w.heap.size 9 1 v' n ((zs.take n).map (Value.string)) ∧ v' ≠ .slice none 0 0 ∧ Below w.heap.size w w' := Any.slices_Clone_string Try.laysNm216 b off n c zs w hz hbig hc
open Go.RowKit Go.Lib in
theorem Try.slices_Clone_string_nil (n c : Nat) (w : World) :
    Calls Try.prog 18 #[.slice none n c] w fun e w' => e = .returned (.slice none 0 0) ∧ w' = w := Any.slices_Clone_string_nil Try.laysNm216 n c w
open Go.RowKit Go.Lib in
theorem Try.slices_Clone_string_zero (a : Addr) (c : Nat) (w : World) :
    Calls Try.prog 18 #[.slice (some a) 0 c] w fun e w' => ∃ v', e = .returned v' ∧ w'.ownsRow w.heap.size 9 1 v' 0 [] ∧ v' ≠ .slice none 0 0 ∧ Below w.heap.size w w' := Any.slices_Clone_string_zero Try.laysNm216 a c w
end Go.Proofs

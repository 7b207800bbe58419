/- The shelf's contracts of strings.LastIndex (38) and slices.Reverse at []string (39) at this dump, in plain words (made by the kit's lay-shelf and lay-plain for this program; the others struck). -/
import Derived.Shelf.Strings.LastIndexAll
import Derived.Ground.Names2Prog
import Derived.Shelf.Slices.Cells
import Derived.Test.Qxb6001746aModsProg
namespace Go.Proofs
open Go.Shelf
def Trym.lays148_ren : Go.Shelf.Ren := ⟨fun | 148 => 38 | 222 => 46 | 223 => 47 | 269 => 51 | n => n, fun | 9 => 9 | 3 => 3 | 4 => 4 | 5 => 5 | 146 => 45 | 51 => 44 | 46 => 42 | n => n, fun | n => n⟩
theorem Trym.lays148 : Go.Proofs.Lays.n148 Trym.prog Trym.lays148_ren := {
  mixed := by kernel_rfl
  f148 := Trym.func38.trans (congrArg some (by kernel_rfl))
  f222 := Trym.func46.trans (congrArg some (by kernel_rfl))
  f223 := Trym.func47.trans (congrArg some (by kernel_rfl))
  f269 := Trym.func51.trans (congrArg some (by kernel_rfl))
  t3 := Trym.underlying3
  a3 := Trym.isAgg3
  z3 := Trym.sizeOf3
  v3 := Trym.zeroValue3
  t4 := Trym.underlying4
  a4 := Trym.isAgg4
  z4 := Trym.sizeOf4
  v4 := Trym.zeroValue4
  t5 := Trym.underlying5
  a5 := Trym.isAgg5
  z5 := Trym.sizeOf5
  v5 := Trym.zeroValue5
  t9 := Trym.underlying9
  a9 := Trym.isAgg9
  z9 := Trym.sizeOf9
  v9 := Trym.zeroValue9
  t46 := Trym.underlying42
  a46 := Trym.isAgg42
  z46 := Trym.sizeOf42
  v46 := Trym.zeroValue42
  t51 := Trym.underlying44
  a51 := Trym.isAgg44
  z51 := Trym.sizeOf44
  v51 := Trym.zeroValue44
  t146 := Trym.underlying45
  a146 := Trym.isAgg45
  z146 := Trym.sizeOf45
  v146 := Trym.zeroValue45 }
open Go.RowKit Go.Lib in
/-- strings.LastIndex: "LastIndex returns the index of the last place of substr in s, or -1 if substr is not present in s.": AT A substr OF WHATEVER LENGTH. (LAID: no walk: one application.) -/
theorem Trym.strings_LastIndex (s sub : ByteArray) (hs : s.size < 4611686018427387904) (w : World) :
    Calls Trym.prog 38 #[.string s, .string sub] w fun e w' => e = .returned (.int .i64 (Lib.lastIndex s.data.toList sub.data.toList)) ∧ w' = w := Any.strings_LastIndex Trym.lays148 s sub hs w
def Trym.laysNm217_ren : Go.Shelf.Ren := ⟨fun | 17 => 39 | n => n, fun | 24 => 32 | 9 => 9 | 3 => 3 | 4 => 4 | 0 => 0 | n => n, fun | n => n⟩
theorem Trym.laysNm217 : Go.Proofs.Lays2.n17 Trym.prog Trym.laysNm217_ren := {
  mixed := by kernel_rfl
  f17 := Trym.func39.trans (congrArg some (by kernel_rfl))
  t0 := Trym.underlying0
  a0 := Trym.isAgg0
  z0 := Trym.sizeOf0
  v0 := Trym.zeroValue0
  t3 := Trym.underlying3
  a3 := Trym.isAgg3
  z3 := Trym.sizeOf3
  v3 := Trym.zeroValue3
  t4 := Trym.underlying4
  a4 := Trym.isAgg4
  z4 := Trym.sizeOf4
  v4 := Trym.zeroValue4
  t9 := Trym.underlying9
  a9 := Trym.isAgg9
  z9 := Trym.sizeOf9
  v9 := Trym.zeroValue9
  t24 := Trym.underlying32
  a24 := Trym.isAgg32
  z24 := Trym.sizeOf32
  v24 := Trym.zeroValue32 }
open Go.RowKit Go.Lib Go.Sort in
/-- slices.Reverse at []string, of an argument. (LAID: no walk: one application.) -/
theorem Trym.slices_Reverse_string_cells (b off n c : Nat) (Sx : Nat → ByteArray) (w : World) (hbig : n ≤ 9223372036854775807) (hc : ∀ i, i < n → w.cell? ⟨b, off + i, none⟩ = some (.string (Sx i))) (hf : ∀ j, j < n → w.frozen? ⟨b, off + j, none⟩ = false) :
    Calls Trym.prog 39 #[.slice (some ⟨b, off, none⟩) n c] w fun e w' => e = .returned (.tuple #[]) ∧ ∃ q, w' = (w.drewN q).setCells b off ((Lib.strsOf Sx n).reverse.map encStr) := Any.slices_Reverse_string_cells Trym.laysNm217 b off n c Sx w hbig hc hf
end Go.Proofs

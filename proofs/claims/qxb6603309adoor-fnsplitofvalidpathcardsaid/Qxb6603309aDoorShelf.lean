/-
  DERIVED: THE SHELF's CONTRACTS AT THIS DUMP, IN PLAIN WORDS (tools/lay-plain.mjs out of 'Qxb6603309aDoorShelf.lean', which tools/lay-shelf.mjs wrote): THE SAME DECLARATIONS UNDER THE SAME NAMES: 'import', 'namespace', 'open', 'def', 'theorem' AND NOTHING ELSE: no command of the shelf's: FOR A HAND-IN. Each laying: the table of numbers ('.._ren') and one theorem, a field a fact of the dump's own or the kernel's comparison; each contract: ONE APPLICATION.
-/
import Derived.Shelf.LaysM
import Derived.Shelf.Strings.SplitShaped
import Derived.Shelf.Strings.Prefix
import Derived.Shelf.Strings.LastIndex
import Derived.Test.Qxb6603309aDoorProg
namespace Go.Proofs
open Go.Shelf
def Tryd.laysM146_ren : Go.Shelf.Ren := ⟨fun | 146 => 18 | 221 => 22 | 268 => 24 | 138 => 25 | 143 => 26 | 195 => 27 | 197 => 28 | 218 => 29 | 219 => 30 | 260 => 31 | 217 => 32 | 225 => 33 | 224 => 34 | 267 => 35 | 266 => 36 | 314 => 37 | n => n, fun | 9 => 9 | 31 => 29 | 3 => 3 | 4 => 4 | 0 => 0 | 105 => 26 | 21 => 21 | 5 => 5 | 46 => 32 | 119 => 40 | 139 => 43 | 138 => 42 | 146 => 45 | 51 => 44 | n => n, fun | 1 => 0 | 3 => 1 | 4 => 2 | n => n⟩
theorem Tryd.laysM146 : Go.Proofs.LaysM.n146 Tryd.prog Tryd.laysM146_ren := {
  mixed := by kernel_rfl
  f138 := Tryd.func25.trans (congrArg some (by kernel_rfl))
  f143 := Tryd.func26.trans (congrArg some (by kernel_rfl))
  f146 := Tryd.func18.trans (congrArg some (by kernel_rfl))
  f195 := Tryd.func27.trans (congrArg some (by kernel_rfl))
  f197 := Tryd.func28.trans (congrArg some (by kernel_rfl))
  f217 := Tryd.func32.trans (congrArg some (by kernel_rfl))
  f218 := Tryd.func29.trans (congrArg some (by kernel_rfl))
  f219 := Tryd.func30.trans (congrArg some (by kernel_rfl))
  f221 := Tryd.func22.trans (congrArg some (by kernel_rfl))
  f224 := Tryd.func34.trans (congrArg some (by kernel_rfl))
  f225 := Tryd.func33.trans (congrArg some (by kernel_rfl))
  f260 := Tryd.func31.trans (congrArg some (by kernel_rfl))
  f266 := Tryd.func36.trans (congrArg some (by kernel_rfl))
  f267 := Tryd.func35.trans (congrArg some (by kernel_rfl))
  f268 := Tryd.func24.trans (congrArg some (by kernel_rfl))
  f314 := Tryd.func37.trans (congrArg some (by kernel_rfl))
  t0 := Tryd.underlying0
  a0 := Tryd.isAgg0
  z0 := Tryd.sizeOf0
  v0 := Tryd.zeroValue0
  t3 := Tryd.underlying3
  a3 := Tryd.isAgg3
  z3 := Tryd.sizeOf3
  v3 := Tryd.zeroValue3
  t4 := Tryd.underlying4
  a4 := Tryd.isAgg4
  z4 := Tryd.sizeOf4
  v4 := Tryd.zeroValue4
  t5 := Tryd.underlying5
  a5 := Tryd.isAgg5
  z5 := Tryd.sizeOf5
  v5 := Tryd.zeroValue5
  t9 := Tryd.underlying9
  a9 := Tryd.isAgg9
  z9 := Tryd.sizeOf9
  v9 := Tryd.zeroValue9
  t21 := Tryd.underlying21
  a21 := Tryd.isAgg21
  z21 := Tryd.sizeOf21
  v21 := Tryd.zeroValue21
  t31 := Tryd.underlying29
  a31 := Tryd.isAgg29
  z31 := Tryd.sizeOf29
  v31 := Tryd.zeroValue29
  t46 := Tryd.underlying32
  a46 := Tryd.isAgg32
  z46 := Tryd.sizeOf32
  v46 := Tryd.zeroValue32
  t51 := Tryd.underlying44
  a51 := Tryd.isAgg44
  z51 := Tryd.sizeOf44
  v51 := Tryd.zeroValue44
  t105 := Tryd.underlying26
  a105 := Tryd.isAgg26
  z105 := Tryd.sizeOf26
  v105 := Tryd.zeroValue26
  t119 := Tryd.underlying40
  a119 := Tryd.isAgg40
  z119 := Tryd.sizeOf40
  t138 := Tryd.underlying42
  a138 := Tryd.isAgg42
  z138 := Tryd.sizeOf42
  v138 := Tryd.zeroValue42
  t139 := Tryd.underlying43
  a139 := Tryd.isAgg43
  z139 := Tryd.sizeOf43
  v139 := Tryd.zeroValue43
  t146 := Tryd.underlying45
  a146 := Tryd.isAgg45
  z146 := Tryd.sizeOf45
  v146 := Tryd.zeroValue45
  g1 := by kernel_rfl
  g3 := by kernel_rfl
  g4 := by kernel_rfl
  i0 := by kernel_rfl
  i3 := by kernel_rfl
  i4 := by kernel_rfl
  i5 := by kernel_rfl
  i9 := by kernel_rfl
  i21 := by kernel_rfl
  i31 := by kernel_rfl
  i46 := by kernel_rfl
  i51 := by kernel_rfl
  i105 := by kernel_rfl
  i138 := by kernel_rfl
  i139 := by kernel_rfl
  i146 := by kernel_rfl
  m1 := by kernel_rfl
  s1_3 := fun w h => Go.Proofs.cell_of_shapedOpen_int (zero := #[.int .i64 0]) (t := 3) h (of_decide_eq_true (by kernel_rfl)) (by kernel_rfl) rfl (by kernel_rfl) (by kernel_rfl) Tryd.underlying3
  m3 := by kernel_rfl
  m4 := by kernel_rfl }
def Tryd.lays146_ren : Go.Shelf.Ren := ⟨fun | 146 => 18 | 221 => 22 | 268 => 24 | 138 => 25 | 143 => 26 | 195 => 27 | 197 => 28 | 218 => 29 | 219 => 30 | 260 => 31 | 217 => 32 | 225 => 33 | 224 => 34 | 267 => 35 | 266 => 36 | 314 => 37 | n => n, fun | 9 => 9 | 31 => 29 | 3 => 3 | 4 => 4 | 0 => 0 | 105 => 26 | 21 => 21 | 5 => 5 | 46 => 32 | 119 => 40 | 139 => 43 | 138 => 42 | 146 => 45 | 51 => 44 | n => n, fun | 1 => 0 | 3 => 1 | 4 => 2 | n => n⟩
theorem Tryd.lays146 : Go.Proofs.Lays.n146 Tryd.prog Tryd.lays146_ren := {
  mixed := by kernel_rfl
  f138 := Tryd.func25.trans (congrArg some (by kernel_rfl))
  f143 := Tryd.func26.trans (congrArg some (by kernel_rfl))
  f146 := Tryd.func18.trans (congrArg some (by kernel_rfl))
  f195 := Tryd.func27.trans (congrArg some (by kernel_rfl))
  f197 := Tryd.func28.trans (congrArg some (by kernel_rfl))
  f217 := Tryd.func32.trans (congrArg some (by kernel_rfl))
  f218 := Tryd.func29.trans (congrArg some (by kernel_rfl))
  f219 := Tryd.func30.trans (congrArg some (by kernel_rfl))
  f221 := Tryd.func22.trans (congrArg some (by kernel_rfl))
  f224 := Tryd.func34.trans (congrArg some (by kernel_rfl))
  f225 := Tryd.func33.trans (congrArg some (by kernel_rfl))
  f260 := Tryd.func31.trans (congrArg some (by kernel_rfl))
  f266 := Tryd.func36.trans (congrArg some (by kernel_rfl))
  f267 := Tryd.func35.trans (congrArg some (by kernel_rfl))
  f268 := Tryd.func24.trans (congrArg some (by kernel_rfl))
  f314 := Tryd.func37.trans (congrArg some (by kernel_rfl))
  t0 := Tryd.underlying0
  a0 := Tryd.isAgg0
  z0 := Tryd.sizeOf0
  v0 := Tryd.zeroValue0
  t3 := Tryd.underlying3
  a3 := Tryd.isAgg3
  z3 := Tryd.sizeOf3
  v3 := Tryd.zeroValue3
  t4 := Tryd.underlying4
  a4 := Tryd.isAgg4
  z4 := Tryd.sizeOf4
  v4 := Tryd.zeroValue4
  t5 := Tryd.underlying5
  a5 := Tryd.isAgg5
  z5 := Tryd.sizeOf5
  v5 := Tryd.zeroValue5
  t9 := Tryd.underlying9
  a9 := Tryd.isAgg9
  z9 := Tryd.sizeOf9
  v9 := Tryd.zeroValue9
  t21 := Tryd.underlying21
  a21 := Tryd.isAgg21
  z21 := Tryd.sizeOf21
  v21 := Tryd.zeroValue21
  t31 := Tryd.underlying29
  a31 := Tryd.isAgg29
  z31 := Tryd.sizeOf29
  v31 := Tryd.zeroValue29
  t46 := Tryd.underlying32
  a46 := Tryd.isAgg32
  z46 := Tryd.sizeOf32
  v46 := Tryd.zeroValue32
  t51 := Tryd.underlying44
  a51 := Tryd.isAgg44
  z51 := Tryd.sizeOf44
  v51 := Tryd.zeroValue44
  t105 := Tryd.underlying26
  a105 := Tryd.isAgg26
  z105 := Tryd.sizeOf26
  v105 := Tryd.zeroValue26
  t119 := Tryd.underlying40
  a119 := Tryd.isAgg40
  z119 := Tryd.sizeOf40
  t138 := Tryd.underlying42
  a138 := Tryd.isAgg42
  z138 := Tryd.sizeOf42
  v138 := Tryd.zeroValue42
  t139 := Tryd.underlying43
  a139 := Tryd.isAgg43
  z139 := Tryd.sizeOf43
  v139 := Tryd.zeroValue43
  t146 := Tryd.underlying45
  a146 := Tryd.isAgg45
  z146 := Tryd.sizeOf45
  v146 := Tryd.zeroValue45
  g1 := by kernel_rfl
  g3 := by kernel_rfl
  g4 := by kernel_rfl }
def Tryd.lays99_ren : Go.Shelf.Ren := ⟨fun | 99 => 17 | 206 => 21 | n => n, fun | 9 => 9 | 4 => 4 | 3 => 3 | n => n, fun | n => n⟩
theorem Tryd.lays99 : Go.Proofs.Lays.n99 Tryd.prog Tryd.lays99_ren := {
  mixed := by kernel_rfl
  f99 := Tryd.func17.trans (congrArg some (by kernel_rfl))
  f206 := Tryd.func21.trans (congrArg some (by kernel_rfl))
  t3 := Tryd.underlying3
  a3 := Tryd.isAgg3
  z3 := Tryd.sizeOf3
  v3 := Tryd.zeroValue3
  t4 := Tryd.underlying4
  a4 := Tryd.isAgg4
  z4 := Tryd.sizeOf4
  v4 := Tryd.zeroValue4
  t9 := Tryd.underlying9
  a9 := Tryd.isAgg9
  z9 := Tryd.sizeOf9
  v9 := Tryd.zeroValue9 }
def Tryd.lays149_ren : Go.Shelf.Ren := ⟨fun | 149 => 20 | 222 => 23 | n => n, fun | 9 => 9 | 5 => 5 | 3 => 3 | 4 => 4 | n => n, fun | n => n⟩
theorem Tryd.lays149 : Go.Proofs.Lays.n149 Tryd.prog Tryd.lays149_ren := {
  mixed := by kernel_rfl
  f149 := Tryd.func20.trans (congrArg some (by kernel_rfl))
  f222 := Tryd.func23.trans (congrArg some (by kernel_rfl))
  t3 := Tryd.underlying3
  a3 := Tryd.isAgg3
  z3 := Tryd.sizeOf3
  v3 := Tryd.zeroValue3
  t4 := Tryd.underlying4
  a4 := Tryd.isAgg4
  z4 := Tryd.sizeOf4
  v4 := Tryd.zeroValue4
  t5 := Tryd.underlying5
  a5 := Tryd.isAgg5
  z5 := Tryd.sizeOf5
  v5 := Tryd.zeroValue5
  t9 := Tryd.underlying9
  a9 := Tryd.isAgg9
  z9 := Tryd.sizeOf9
  v9 := Tryd.zeroValue9 }
open Go.RowKit Go.Lib in
theorem Tryd.maxLen_cell (w : World) (h : w.ShapedOpen Tryd.prog) : ∃ m, w.cell? ⟨0, 0, none⟩ = some (.int .i64 m) := Tryd.laysM146.s1_3 w h
open Go.RowKit Go.Lib in
theorem Tryd.strings_Split (s sep : ByteArray) (m : Int) (w : World) (hs : s.size < 4294967281) (hm : w.cell? ⟨0, 0, none⟩ = some (.int .i64 m)) (h1 : 1 ≤ sep.size) :
    Calls Tryd.prog 18 #[.string s, .string sep] w fun e w' =>
      e = .returned (.slice (some ⟨w.heap.size, 0, none⟩) (Lib.countB s sep + 1) (Lib.countB s sep + 1)) ∧ w' = w.alloc (.cells ((Lib.splitB sep 0 (Lib.countB s sep) s).map Value.string).toArray 9) := Any.strings_Split Tryd.lays146 (by kernel_rfl) s sep m w hs hm h1
open Go.RowKit Go.Lib in
theorem Tryd.strings_HasPrefix (s p : ByteArray) (w : World) :
    Calls Tryd.prog 17 #[.string s, .string p] w fun e w' => e = .returned (.bool (Lib.hasPrefix s.data.toList p.data.toList)) ∧ w' = w := Any.strings_HasPrefix Tryd.lays99 s p w
open Go.RowKit Go.Lib in
theorem Tryd.strings_LastIndexByte (s : ByteArray) (c : Int) (hs : s.size < 4611686018427387904) (w : World) :
    Calls Tryd.prog 20 #[.string s, .int .u8 c] w fun e w' => e = .returned (.int .i64 (Lib.lastIndexByte s c)) ∧ w' = w := Any.strings_LastIndexByte Tryd.lays149 s c hs w
end Go.Proofs

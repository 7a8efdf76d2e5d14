/-
  DERIVED: THE SHELF's CONTRACTS AT THIS DUMP, IN PLAIN WORDS (tools/lay-plain.mjs out of 'Qxb6602005aDoorShelf.lean', which tools/lay-shelf.mjs wrote): THE SAME DECLARATIONS UNDER THE SAME NAMES: 'import', 'namespace', 'open', 'def', 'theorem' AND NOTHING ELSE: no command of the shelf's: FOR A HAND-IN. Each laying: the table of numbers ('.._ren') and one theorem, a field a fact of the dump's own or the kernel's comparison; each contract: ONE APPLICATION.
-/
import Derived.Shelf.Bytes.SlTrim
import Derived.Test.Qxb6602005aDoorProg
namespace Go.Proofs
open Go.Shelf
def Tryd.laysv7_ren : Go.Shelf.Ren := ⟨fun | 7 => 33 | 10 => 43 | 11 => 40 | 13 => 44 | 15 => 45 | 16 => 49 | 19 => 52 | 18 => 51 | 21 => 57 | 17 => 50 | 20 => 56 | n => n, fun | 22 => 22 | 9 => 9 | 3 => 3 | 4 => 4 | 5 => 5 | 28 => 63 | 27 => 62 | 0 => 0 | 31 => 66 | 21 => 21 | 33 => 67 | 36 => 77 | 37 => 78 | 40 => 81 | 39 => 80 | n => n, fun | 0 => 1 | 1 => 2 | n => n⟩
theorem Tryd.laysv7 : Go.Proofs.SlLaysV.n7 Tryd.prog Tryd.laysv7_ren := {
  mixed := by kernel_rfl
  f7 := Tryd.func33.trans (congrArg some (by kernel_rfl))
  f10 := Tryd.func43.trans (congrArg some (by kernel_rfl))
  f11 := Tryd.func40.trans (congrArg some (by kernel_rfl))
  f13 := Tryd.func44.trans (congrArg some (by kernel_rfl))
  f15 := Tryd.func45.trans (congrArg some (by kernel_rfl))
  f16 := Tryd.func49.trans (congrArg some (by kernel_rfl))
  f17 := Tryd.func50.trans (congrArg some (by kernel_rfl))
  f18 := Tryd.func51.trans (congrArg some (by kernel_rfl))
  f19 := Tryd.func52.trans (congrArg some (by kernel_rfl))
  f20 := Tryd.func56.trans (congrArg some (by kernel_rfl))
  f21 := Tryd.func57.trans (congrArg some (by kernel_rfl))
  t0 := Tryd.underlying0
  a0 := Tryd.isAgg0
  z0 := Tryd.sizeOf0
  v0 := Tryd.zeroValue0
  t3 := Tryd.underlying3
  a3 := Tryd.isAgg3
  z3 := Tryd.sizeOf3
  v3 := Tryd.zeroValue3
  t4 := Tryd.underlying4
  a4 := Tryd.isAgg4
  z4 := Tryd.sizeOf4
  v4 := Tryd.zeroValue4
  t5 := Tryd.underlying5
  a5 := Tryd.isAgg5
  z5 := Tryd.sizeOf5
  v5 := Tryd.zeroValue5
  t9 := Tryd.underlying9
  a9 := Tryd.isAgg9
  z9 := Tryd.sizeOf9
  v9 := Tryd.zeroValue9
  t21 := Tryd.underlying21
  a21 := Tryd.isAgg21
  z21 := Tryd.sizeOf21
  v21 := Tryd.zeroValue21
  t22 := Tryd.underlying22
  a22 := Tryd.isAgg22
  z22 := Tryd.sizeOf22
  v22 := Tryd.zeroValue22
  t27 := Tryd.underlying62
  a27 := Tryd.isAgg62
  z27 := Tryd.sizeOf62
  t28 := Tryd.underlying63
  a28 := Tryd.isAgg63
  z28 := Tryd.sizeOf63
  v28 := Tryd.zeroValue63
  t31 := Tryd.underlying66
  a31 := Tryd.isAgg66
  z31 := Tryd.sizeOf66
  v31 := Tryd.zeroValue66
  t33 := Tryd.underlying67
  a33 := Tryd.isAgg67
  z33 := Tryd.sizeOf67
  v33 := Tryd.zeroValue67
  t36 := Tryd.underlying77
  a36 := Tryd.isAgg77
  z36 := Tryd.sizeOf77
  t37 := Tryd.underlying78
  a37 := Tryd.isAgg78
  z37 := Tryd.sizeOf78
  v37 := Tryd.zeroValue78
  t39 := Tryd.underlying80
  a39 := Tryd.isAgg80
  z39 := Tryd.sizeOf80
  v39 := Tryd.zeroValue80
  t40 := Tryd.underlying81
  a40 := Tryd.isAgg81
  z40 := Tryd.sizeOf81
  v40 := Tryd.zeroValue81 }
def Tryd.laysv8_ren : Go.Shelf.Ren := ⟨fun | 8 => 32 | 9 => 39 | 11 => 40 | 12 => 41 | 14 => 42 | 16 => 49 | 17 => 50 | 18 => 51 | 20 => 56 | n => n, fun | 22 => 22 | 9 => 9 | 3 => 3 | 4 => 4 | 5 => 5 | 28 => 63 | 27 => 62 | 0 => 0 | 31 => 66 | 33 => 67 | 21 => 21 | 36 => 77 | 37 => 78 | 40 => 81 | 39 => 80 | n => n, fun | 0 => 1 | 1 => 2 | n => n⟩
theorem Tryd.laysv8 : Go.Proofs.SlLaysV.n8 Tryd.prog Tryd.laysv8_ren := {
  mixed := by kernel_rfl
  f8 := Tryd.func32.trans (congrArg some (by kernel_rfl))
  f9 := Tryd.func39.trans (congrArg some (by kernel_rfl))
  f11 := Tryd.func40.trans (congrArg some (by kernel_rfl))
  f12 := Tryd.func41.trans (congrArg some (by kernel_rfl))
  f14 := Tryd.func42.trans (congrArg some (by kernel_rfl))
  f16 := Tryd.func49.trans (congrArg some (by kernel_rfl))
  f17 := Tryd.func50.trans (congrArg some (by kernel_rfl))
  f18 := Tryd.func51.trans (congrArg some (by kernel_rfl))
  f20 := Tryd.func56.trans (congrArg some (by kernel_rfl))
  t0 := Tryd.underlying0
  a0 := Tryd.isAgg0
  z0 := Tryd.sizeOf0
  v0 := Tryd.zeroValue0
  t3 := Tryd.underlying3
  a3 := Tryd.isAgg3
  z3 := Tryd.sizeOf3
  v3 := Tryd.zeroValue3
  t4 := Tryd.underlying4
  a4 := Tryd.isAgg4
  z4 := Tryd.sizeOf4
  v4 := Tryd.zeroValue4
  t5 := Tryd.underlying5
  a5 := Tryd.isAgg5
  z5 := Tryd.sizeOf5
  v5 := Tryd.zeroValue5
  t9 := Tryd.underlying9
  a9 := Tryd.isAgg9
  z9 := Tryd.sizeOf9
  v9 := Tryd.zeroValue9
  t21 := Tryd.underlying21
  a21 := Tryd.isAgg21
  z21 := Tryd.sizeOf21
  v21 := Tryd.zeroValue21
  t22 := Tryd.underlying22
  a22 := Tryd.isAgg22
  z22 := Tryd.sizeOf22
  v22 := Tryd.zeroValue22
  t27 := Tryd.underlying62
  a27 := Tryd.isAgg62
  z27 := Tryd.sizeOf62
  t28 := Tryd.underlying63
  a28 := Tryd.isAgg63
  z28 := Tryd.sizeOf63
  v28 := Tryd.zeroValue63
  t31 := Tryd.underlying66
  a31 := Tryd.isAgg66
  z31 := Tryd.sizeOf66
  v31 := Tryd.zeroValue66
  t33 := Tryd.underlying67
  a33 := Tryd.isAgg67
  z33 := Tryd.sizeOf67
  v33 := Tryd.zeroValue67
  t36 := Tryd.underlying77
  a36 := Tryd.isAgg77
  z36 := Tryd.sizeOf77
  t37 := Tryd.underlying78
  a37 := Tryd.isAgg78
  z37 := Tryd.sizeOf78
  v37 := Tryd.zeroValue78
  t39 := Tryd.underlying80
  a39 := Tryd.isAgg80
  z39 := Tryd.sizeOf80
  v39 := Tryd.zeroValue80
  t40 := Tryd.underlying81
  a40 := Tryd.isAgg81
  z40 := Tryd.sizeOf81
  v40 := Tryd.zeroValue81 }
open Go.RowKit Go.Lib in
theorem Tryd.bytes_TrimRight_one (p : Option Addr) (n c : Nat) (bs : List UInt8) (cc : UInt8) (w : World)
    (hb : bs.length = n) (hnc : n ≤ c) (hbig : c ≤ 9223372036854775807) (h1 : Lib.BytesAt w p n bs) (h0 : 0 < n) (hc : cc.toNat < 128) :
    Calls Tryd.prog 33 #[.slice p n c, .string ⟨#[cc]⟩] w fun e w' => e = .returned (.slice p (Lib.trimRightS bs [cc]).length c) ∧ w' = w := Any.bytes_TrimRight_one Tryd.laysv7 p n c bs cc w hb hnc hbig h1 h0 hc
open Go.RowKit Go.Lib in
theorem Tryd.bytes_TrimLeft_one (p : Option Addr) (n c : Nat) (bs : List UInt8) (cc : UInt8) (w : World)
    (hb : bs.length = n) (hnc : n ≤ c) (hbig : c ≤ 9223372036854775807) (h1 : Lib.BytesAt w p n bs) (h0 : 0 < n) (hc : cc.toNat < 128) :
    Calls Tryd.prog 32 #[.slice p n c, .string ⟨#[cc]⟩] w fun e w' => e = .returned (Lib.leftV p n c (n - (Lib.trimLeftS bs [cc]).length)) ∧ w' = w := Any.bytes_TrimLeft_one Tryd.laysv8 p n c bs cc w hb hnc hbig h1 h0 hc
open Go.RowKit Go.Lib in
theorem Tryd.bytes_TrimRight_empty (p : Option Addr) (n c : Nat) (cutset : ByteArray) (w : World) (h : n = 0 ∨ cutset.size = 0) :
    Calls Tryd.prog 33 #[.slice p n c, .string cutset] w fun e w' => e = .returned (.slice p n c) ∧ w' = w := Any.bytes_TrimRight_empty Tryd.laysv7 p n c cutset w h
open Go.RowKit Go.Lib in
theorem Tryd.bytes_TrimLeft_none (p : Option Addr) (c : Nat) (cutset : ByteArray) (w : World) :
    Calls Tryd.prog 32 #[.slice p 0 c, .string cutset] w fun e w' => e = .returned (.slice none 0 0) ∧ w' = w := Any.bytes_TrimLeft_none Tryd.laysv8 p c cutset w
end Go.Proofs

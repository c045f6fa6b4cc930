/-
  The shelf's contracts at this dump, in plain words (lay-shelf, lay-plain).
-/
import Derived.Shelf.Strconv.Quote
import Derived.Ground.MnProg
import Derived.Shelf.Bin.AppendUvarint
import Derived.Shelf.Unicode.DecodeSlow
import Derived.Shelf.Unicode.DecodeAny
import Derived.Shelf.Unicode.ValidAny
import Derived.Test.Qxb6616388aFmtProg
namespace Go.Proofs
open Go.Shelf
def Tryf.lays177_ren : Go.Shelf.Ren := ⟨fun | 177 => 35 | 250 => 41 | 289 => 43 | 197 => 44 | 323 => 45 | 260 => 46 | 339 => 34 | 340 => 47 | 242 => 48 | 119 => 49 | 345 => 39 | 346 => 40 | 278 => 50 | n => n, fun | 9 => 9 | 5 => 5 | 4 => 4 | 3 => 3 | 37 => 22 | 21 => 21 | 105 => 77 | 46 => 50 | 119 => 61 | 0 => 0 | 139 => 64 | 138 => 63 | 49 => 67 | 234 => 68 | 131 => 69 | 51 => 71 | 236 => 72 | n => n, fun | 3 => 0 | 4 => 1 | 20 => 2 | 21 => 3 | 22 => 4 | 23 => 5 | 24 => 6 | n => n⟩
theorem Tryf.lays177 : Go.Proofs.Lays.n177 Tryf.prog Tryf.lays177_ren := {
  mixed := by kernel_rfl
  f119 := Tryf.func49.trans (congrArg some (by kernel_rfl))
  f177 := Tryf.func35.trans (congrArg some (by kernel_rfl))
  f197 := Tryf.func44.trans (congrArg some (by kernel_rfl))
  f242 := Tryf.func48.trans (congrArg some (by kernel_rfl))
  f250 := Tryf.func41.trans (congrArg some (by kernel_rfl))
  f260 := Tryf.func46.trans (congrArg some (by kernel_rfl))
  f278 := Tryf.func50.trans (congrArg some (by kernel_rfl))
  f289 := Tryf.func43.trans (congrArg some (by kernel_rfl))
  f323 := Tryf.func45.trans (congrArg some (by kernel_rfl))
  f339 := Tryf.func34.trans (congrArg some (by kernel_rfl))
  f340 := Tryf.func47.trans (congrArg some (by kernel_rfl))
  f345 := Tryf.func39.trans (congrArg some (by kernel_rfl))
  f346 := Tryf.func40.trans (congrArg some (by kernel_rfl))
  t0 := Tryf.underlying0
  a0 := Tryf.isAgg0
  z0 := Tryf.sizeOf0
  v0 := Tryf.zeroValue0
  t3 := Tryf.underlying3
  a3 := Tryf.isAgg3
  z3 := Tryf.sizeOf3
  v3 := Tryf.zeroValue3
  t4 := Tryf.underlying4
  a4 := Tryf.isAgg4
  z4 := Tryf.sizeOf4
  v4 := Tryf.zeroValue4
  t5 := Tryf.underlying5
  a5 := Tryf.isAgg5
  z5 := Tryf.sizeOf5
  v5 := Tryf.zeroValue5
  t9 := Tryf.underlying9
  a9 := Tryf.isAgg9
  z9 := Tryf.sizeOf9
  v9 := Tryf.zeroValue9
  t21 := Tryf.underlying21
  a21 := Tryf.isAgg21
  z21 := Tryf.sizeOf21
  v21 := Tryf.zeroValue21
  t37 := Tryf.underlying22
  a37 := Tryf.isAgg22
  z37 := Tryf.sizeOf22
  v37 := Tryf.zeroValue22
  t46 := Tryf.underlying50
  a46 := Tryf.isAgg50
  z46 := Tryf.sizeOf50
  v46 := Tryf.zeroValue50
  t49 := Tryf.underlying67
  a49 := Tryf.isAgg67
  z49 := Tryf.sizeOf67
  v49 := Tryf.zeroValue67
  t51 := Tryf.underlying71
  a51 := Tryf.isAgg71
  z51 := Tryf.sizeOf71
  v51 := Tryf.zeroValue71
  t105 := Tryf.underlying77
  a105 := Tryf.isAgg77
  z105 := Tryf.sizeOf77
  v105 := Tryf.zeroValue77
  t119 := Tryf.underlying61
  a119 := Tryf.isAgg61
  z119 := Tryf.sizeOf61
  t131 := Tryf.underlying69
  a131 := Tryf.isAgg69
  z131 := Tryf.sizeOf69
  v131 := Tryf.zeroValue69
  t138 := Tryf.underlying63
  a138 := Tryf.isAgg63
  z138 := Tryf.sizeOf63
  v138 := Tryf.zeroValue63
  t139 := Tryf.underlying64
  a139 := Tryf.isAgg64
  z139 := Tryf.sizeOf64
  v139 := Tryf.zeroValue64
  t234 := Tryf.underlying68
  a234 := Tryf.isAgg68
  z234 := Tryf.sizeOf68
  v234 := Tryf.zeroValue68
  t236 := Tryf.underlying72
  a236 := Tryf.isAgg72
  z236 := Tryf.sizeOf72
  v236 := Tryf.zeroValue72
  g3 := by kernel_rfl
  g4 := by kernel_rfl
  g20 := by kernel_rfl
  g21 := by kernel_rfl
  g22 := by kernel_rfl
  g23 := by kernel_rfl
  g24 := by kernel_rfl }
open Go.RowKit in
theorem Tryf.strconv_Quote (T : Lib.PrintTabs) (s : ByteArray) (w : World) (hlen : 10 * s.size + 12 ≤ 140737488355328) (hT : Lib.PrintTabsAt 2 3 4 5 T w) (hU : Lib.Utf8Tabs 0 1 w) :
    Calls Tryf.prog 35 #[.string s] w fun e w' => e = .returned (.string (strOfNums (Lib.quoteZ T s))) ∧ Below w.heap.size w w' := Any.strconv_Quote Tryf.lays177 (by kernel_rfl) T s w hlen hT hU
def Tryf.laysBin47_ren : Go.Shelf.Ren := ⟨fun | 47 => 27 | n => n, fun | 22 => 22 | 33 => 23 | 4 => 4 | 5 => 5 | 45 => 50 | n => n, fun | n => n⟩
theorem Tryf.laysBin47 : Go.Proofs.LaysBin.n47 Tryf.prog Tryf.laysBin47_ren := {
  mixed := by kernel_rfl
  f47 := Tryf.func27.trans (congrArg some (by kernel_rfl))
  t4 := Tryf.underlying4
  a4 := Tryf.isAgg4
  z4 := Tryf.sizeOf4
  v4 := Tryf.zeroValue4
  i4 := by kernel_rfl
  t5 := Tryf.underlying5
  a5 := Tryf.isAgg5
  z5 := Tryf.sizeOf5
  v5 := Tryf.zeroValue5
  i5 := by kernel_rfl
  t22 := Tryf.underlying22
  a22 := Tryf.isAgg22
  z22 := Tryf.sizeOf22
  v22 := Tryf.zeroValue22
  i22 := by kernel_rfl
  t33 := Tryf.underlying23
  a33 := Tryf.isAgg23
  z33 := Tryf.sizeOf23
  v33 := Tryf.zeroValue23
  i33 := by kernel_rfl
  t45 := Tryf.underlying50
  a45 := Tryf.isAgg50
  z45 := Tryf.sizeOf50
  v45 := Tryf.zeroValue50
  i45 := by kernel_rfl }
open Go.RowKit in
theorem Tryf.binary_AppendUvarint (B n x : Nat) (hx : x < 18446744073709551616) (sv : Value) (xs : List Value) (w : World) (hown : w.ownsRow B 5 1 sv n xs) (hBw : B ≤ w.heap.size) (hlim : n + 10 ≤ 140737488355328) :
    Calls Tryf.prog 27 #[sv, .int .u64 x] w fun e w' => ∃ v', e = .returned v' ∧ w'.ownsRow B 5 1 v' (n + (Lib.uvarint x).length) (xs ++ Lib.byteCells (Lib.uvarint x)) ∧ Below B w w' := Any.binary_AppendUvarint Tryf.laysBin47 B n x hx sv xs w hown hBw hlim
def Tryf.lays197_ren : Go.Shelf.Ren := ⟨fun | 197 => 44 | 260 => 46 | n => n, fun | 9 => 9 | 21 => 21 | 3 => 3 | 4 => 4 | 5 => 5 | 105 => 77 | 119 => 61 | 0 => 0 | 46 => 50 | 139 => 64 | 138 => 63 | n => n, fun | 3 => 0 | 4 => 1 | n => n⟩
theorem Tryf.lays197 : Go.Proofs.Lays.n197 Tryf.prog Tryf.lays197_ren := {
  mixed := by kernel_rfl
  f197 := Tryf.func44.trans (congrArg some (by kernel_rfl))
  f260 := Tryf.func46.trans (congrArg some (by kernel_rfl))
  t0 := Tryf.underlying0
  a0 := Tryf.isAgg0
  z0 := Tryf.sizeOf0
  v0 := Tryf.zeroValue0
  t3 := Tryf.underlying3
  a3 := Tryf.isAgg3
  z3 := Tryf.sizeOf3
  v3 := Tryf.zeroValue3
  t4 := Tryf.underlying4
  a4 := Tryf.isAgg4
  z4 := Tryf.sizeOf4
  v4 := Tryf.zeroValue4
  t5 := Tryf.underlying5
  a5 := Tryf.isAgg5
  z5 := Tryf.sizeOf5
  v5 := Tryf.zeroValue5
  t9 := Tryf.underlying9
  a9 := Tryf.isAgg9
  z9 := Tryf.sizeOf9
  v9 := Tryf.zeroValue9
  t21 := Tryf.underlying21
  a21 := Tryf.isAgg21
  z21 := Tryf.sizeOf21
  v21 := Tryf.zeroValue21
  t46 := Tryf.underlying50
  a46 := Tryf.isAgg50
  z46 := Tryf.sizeOf50
  v46 := Tryf.zeroValue50
  t105 := Tryf.underlying77
  a105 := Tryf.isAgg77
  z105 := Tryf.sizeOf77
  v105 := Tryf.zeroValue77
  t119 := Tryf.underlying61
  a119 := Tryf.isAgg61
  z119 := Tryf.sizeOf61
  t138 := Tryf.underlying63
  a138 := Tryf.isAgg63
  z138 := Tryf.sizeOf63
  v138 := Tryf.zeroValue63
  t139 := Tryf.underlying64
  a139 := Tryf.isAgg64
  z139 := Tryf.sizeOf64
  v139 := Tryf.zeroValue64
  g3 := by kernel_rfl
  g4 := by kernel_rfl }
def Tryf.lays196_ren : Go.Shelf.Ren := ⟨fun | 196 => 30 | 259 => 36 | n => n, fun | 9 => 9 | 4 => 4 | 3 => 3 | 5 => 5 | 12 => 12 | 119 => 61 | 0 => 0 | 46 => 50 | 139 => 64 | 138 => 63 | 53 => 23 | n => n, fun | 3 => 0 | 4 => 1 | n => n⟩
theorem Tryf.lays196 : Go.Proofs.Lays.n196 Tryf.prog Tryf.lays196_ren := {
  mixed := by kernel_rfl
  f196 := Tryf.func30.trans (congrArg some (by kernel_rfl))
  f259 := Tryf.func36.trans (congrArg some (by kernel_rfl))
  t0 := Tryf.underlying0
  a0 := Tryf.isAgg0
  z0 := Tryf.sizeOf0
  v0 := Tryf.zeroValue0
  t3 := Tryf.underlying3
  a3 := Tryf.isAgg3
  z3 := Tryf.sizeOf3
  v3 := Tryf.zeroValue3
  t4 := Tryf.underlying4
  a4 := Tryf.isAgg4
  z4 := Tryf.sizeOf4
  v4 := Tryf.zeroValue4
  t5 := Tryf.underlying5
  a5 := Tryf.isAgg5
  z5 := Tryf.sizeOf5
  v5 := Tryf.zeroValue5
  t9 := Tryf.underlying9
  a9 := Tryf.isAgg9
  z9 := Tryf.sizeOf9
  v9 := Tryf.zeroValue9
  t12 := Tryf.underlying12
  a12 := Tryf.isAgg12
  z12 := Tryf.sizeOf12
  v12 := Tryf.zeroValue12
  t46 := Tryf.underlying50
  a46 := Tryf.isAgg50
  z46 := Tryf.sizeOf50
  v46 := Tryf.zeroValue50
  t53 := Tryf.underlying23
  a53 := Tryf.isAgg23
  z53 := Tryf.sizeOf23
  v53 := Tryf.zeroValue23
  t119 := Tryf.underlying61
  a119 := Tryf.isAgg61
  z119 := Tryf.sizeOf61
  t138 := Tryf.underlying63
  a138 := Tryf.isAgg63
  z138 := Tryf.sizeOf63
  v138 := Tryf.zeroValue63
  t139 := Tryf.underlying64
  a139 := Tryf.isAgg64
  z139 := Tryf.sizeOf64
  v139 := Tryf.zeroValue64
  g3 := by kernel_rfl
  g4 := by kernel_rfl }
open Go.RowKit in
theorem Tryf.utf8_ValidString (s : ByteArray) (w : World) (hs : s.size ≤ 9223372036854775807) (hT : Lib.Utf8Tabs 0 1 w) :
    Calls Tryf.prog 30 #[.string s] w fun e w' => e = .returned (.bool (Lib.validD s.data.toList)) ∧ Below w.heap.size w w' := Any.utf8_ValidString Tryf.lays196 s w hs hT
end Go.Proofs

/-
  The shelf's contracts at this dump, in plain words (lay-shelf, lay-plain).
-/
import Derived.Shelf.Unicode.Decode
import Derived.Shelf.Unicode.DecodeSlow
import Derived.Shelf.Unicode.DecodeAny
import Derived.Shelf.Unicode.CaseLookup
import Derived.Shelf.Unicode.CaseConvert
import Derived.Test.Qxb6616414aDoorProg
namespace Go.Proofs
open Go.Shelf
def Tryd.lays197_ren : Go.Shelf.Ren := ⟨fun | 197 => 14 | 260 => 16 | n => n, fun | 9 => 9 | 21 => 21 | 3 => 3 | 4 => 4 | 5 => 5 | 105 => 35 | 119 => 48 | 0 => 0 | 46 => 41 | 139 => 51 | 138 => 50 | n => n, fun | 3 => 3 | 4 => 4 | n => n⟩
theorem Tryd.lays197 : Go.Proofs.Lays.n197 Tryd.prog Tryd.lays197_ren := {
  mixed := by kernel_rfl
  f197 := Tryd.func14.trans (congrArg some (by kernel_rfl))
  f260 := Tryd.func16.trans (congrArg some (by kernel_rfl))
  t0 := Tryd.underlying0
  a0 := Tryd.isAgg0
  z0 := Tryd.sizeOf0
  v0 := Tryd.zeroValue0
  t3 := Tryd.underlying3
  a3 := Tryd.isAgg3
  z3 := Tryd.sizeOf3
  v3 := Tryd.zeroValue3
  t4 := Tryd.underlying4
  a4 := Tryd.isAgg4
  z4 := Tryd.sizeOf4
  v4 := Tryd.zeroValue4
  t5 := Tryd.underlying5
  a5 := Tryd.isAgg5
  z5 := Tryd.sizeOf5
  v5 := Tryd.zeroValue5
  t9 := Tryd.underlying9
  a9 := Tryd.isAgg9
  z9 := Tryd.sizeOf9
  v9 := Tryd.zeroValue9
  t21 := Tryd.underlying21
  a21 := Tryd.isAgg21
  z21 := Tryd.sizeOf21
  v21 := Tryd.zeroValue21
  t46 := Tryd.underlying41
  a46 := Tryd.isAgg41
  z46 := Tryd.sizeOf41
  v46 := Tryd.zeroValue41
  t105 := Tryd.underlying35
  a105 := Tryd.isAgg35
  z105 := Tryd.sizeOf35
  v105 := Tryd.zeroValue35
  t119 := Tryd.underlying48
  a119 := Tryd.isAgg48
  z119 := Tryd.sizeOf48
  t138 := Tryd.underlying50
  a138 := Tryd.isAgg50
  z138 := Tryd.sizeOf50
  v138 := Tryd.zeroValue50
  t139 := Tryd.underlying51
  a139 := Tryd.isAgg51
  z139 := Tryd.sizeOf51
  v139 := Tryd.zeroValue51
  g3 := by kernel_rfl
  g4 := by kernel_rfl }
open Go.RowKit Go.Lib in
theorem Tryd.utf8_DecodeRuneInString_ascii (s : ByteArray) (x : UInt8) (w : World) (h0 : s.data.toList[0]? = some x) (hx : x.toNat < 128) :
    Calls Tryd.prog 14 #[.string s] w fun e w' => e = .returned (.tuple #[.int .i32 x.toNat, .int .i64 1]) ∧ w' = w := Any.utf8_DecodeRuneInString_ascii Tryd.lays197 s x w h0 hx
def Tryd.lays260_ren : Go.Shelf.Ren := ⟨fun | 260 => 16 | n => n, fun | 9 => 9 | 21 => 21 | 3 => 3 | 4 => 4 | 5 => 5 | 119 => 48 | 0 => 0 | 46 => 41 | 139 => 51 | 138 => 50 | n => n, fun | 3 => 3 | 4 => 4 | n => n⟩
theorem Tryd.lays260 : Go.Proofs.Lays.n260 Tryd.prog Tryd.lays260_ren := {
  mixed := by kernel_rfl
  f260 := Tryd.func16.trans (congrArg some (by kernel_rfl))
  t0 := Tryd.underlying0
  a0 := Tryd.isAgg0
  z0 := Tryd.sizeOf0
  v0 := Tryd.zeroValue0
  t3 := Tryd.underlying3
  a3 := Tryd.isAgg3
  z3 := Tryd.sizeOf3
  v3 := Tryd.zeroValue3
  t4 := Tryd.underlying4
  a4 := Tryd.isAgg4
  z4 := Tryd.sizeOf4
  v4 := Tryd.zeroValue4
  t5 := Tryd.underlying5
  a5 := Tryd.isAgg5
  z5 := Tryd.sizeOf5
  v5 := Tryd.zeroValue5
  t9 := Tryd.underlying9
  a9 := Tryd.isAgg9
  z9 := Tryd.sizeOf9
  v9 := Tryd.zeroValue9
  t21 := Tryd.underlying21
  a21 := Tryd.isAgg21
  z21 := Tryd.sizeOf21
  v21 := Tryd.zeroValue21
  t46 := Tryd.underlying41
  a46 := Tryd.isAgg41
  z46 := Tryd.sizeOf41
  v46 := Tryd.zeroValue41
  t119 := Tryd.underlying48
  a119 := Tryd.isAgg48
  z119 := Tryd.sizeOf48
  t138 := Tryd.underlying50
  a138 := Tryd.isAgg50
  z138 := Tryd.sizeOf50
  v138 := Tryd.zeroValue50
  t139 := Tryd.underlying51
  a139 := Tryd.isAgg51
  z139 := Tryd.sizeOf51
  v139 := Tryd.zeroValue51
  g3 := by kernel_rfl
  g4 := by kernel_rfl }
open Go.RowKit Go.Lib in
theorem Tryd.utf8_decodeRuneInStringSlow (s : ByteArray) (w : World) (hT : Lib.Utf8Tabs 3 4 w) :
    Calls Tryd.prog 16 #[.string s] w fun e w' => e = .returned (.tuple #[.int .i32 (Lib.decodeGo s).1, .int .i64 (Lib.decodeGo s).2]) ∧ Below w.heap.size w w' := Any.utf8_decodeRuneInStringSlow Tryd.lays260 s w hT
open Go.RowKit Go.Lib in
theorem Tryd.utf8_DecodeRuneInString (s : ByteArray) (w : World) (hT : Lib.Utf8Tabs 3 4 w) :
    Calls Tryd.prog 14 #[.string s] w fun e w' => e = .returned (.tuple #[.int .i32 (Lib.decodeGo s).1, .int .i64 (Lib.decodeGo s).2]) ∧ Below w.heap.size w w' := Any.utf8_DecodeRuneInString Tryd.lays197 s w hT
def Tryd.lays274_ren : Go.Shelf.Ren := ⟨fun | 274 => 17 | n => n, fun | 21 => 21 | 162 => 46 | 160 => 44 | 3 => 3 | 4 => 4 | 46 => 41 | 0 => 0 | 208 => 56 | 51 => 52 | 206 => 54 | n => n, fun | n => n⟩
theorem Tryd.lays274 : Go.Proofs.Lays.n274 Tryd.prog Tryd.lays274_ren := {
  mixed := by kernel_rfl
  f274 := Tryd.func17.trans (congrArg some (by kernel_rfl))
  t0 := Tryd.underlying0
  a0 := Tryd.isAgg0
  z0 := Tryd.sizeOf0
  v0 := Tryd.zeroValue0
  t3 := Tryd.underlying3
  a3 := Tryd.isAgg3
  z3 := Tryd.sizeOf3
  v3 := Tryd.zeroValue3
  t4 := Tryd.underlying4
  a4 := Tryd.isAgg4
  z4 := Tryd.sizeOf4
  v4 := Tryd.zeroValue4
  t21 := Tryd.underlying21
  a21 := Tryd.isAgg21
  z21 := Tryd.sizeOf21
  v21 := Tryd.zeroValue21
  t46 := Tryd.underlying41
  a46 := Tryd.isAgg41
  z46 := Tryd.sizeOf41
  v46 := Tryd.zeroValue41
  t51 := Tryd.underlying52
  a51 := Tryd.isAgg52
  z51 := Tryd.sizeOf52
  v51 := Tryd.zeroValue52
  t160 := Tryd.underlying44
  a160 := Tryd.isAgg44
  z160 := Tryd.sizeOf44
  v160 := Tryd.zeroValue44
  t162 := Tryd.underlying46
  a162 := Tryd.isAgg46
  z162 := Tryd.sizeOf46
  v162 := Tryd.zeroValue46
  t208 := Tryd.underlying56
  a208 := Tryd.isAgg56
  z208 := Tryd.sizeOf56
  v208 := Tryd.zeroValue56 }
open Go.RowKit Go.Lib in
theorem Tryd.unicode_lookupCaseRange (T : Array CaseRow) (R oR cap : Nat) (r : Int) (w : World) (hT : CaseTab R oR T w) (hok : CaseOk T) (hn : T.size ≤ 1000000000) :
    Calls Tryd.prog 17 #[.int .i32 r, .slice (some ⟨R, oR, none⟩) T.size cap] w fun e w' =>
      e = .returned (match lookupIdx T r (T.size + 1) 0 T.size with | some i => .pointer (some ⟨R, oR + i * 5, none⟩) | none => .pointer none) ∧ w' = w := Any.unicode_lookupCaseRange Tryd.lays274 T R oR cap r w hT hok hn
def Tryd.lays275_ren : Go.Shelf.Ren := ⟨fun | 275 => 18 | n => n, fun | 3 => 3 | 21 => 21 | 160 => 44 | 0 => 0 | 208 => 56 | 206 => 54 | 4 => 4 | 51 => 52 | n => n, fun | n => n⟩
theorem Tryd.lays275 : Go.Proofs.Lays.n275 Tryd.prog Tryd.lays275_ren := {
  mixed := by kernel_rfl
  f275 := Tryd.func18.trans (congrArg some (by kernel_rfl))
  t0 := Tryd.underlying0
  a0 := Tryd.isAgg0
  z0 := Tryd.sizeOf0
  v0 := Tryd.zeroValue0
  t3 := Tryd.underlying3
  a3 := Tryd.isAgg3
  z3 := Tryd.sizeOf3
  v3 := Tryd.zeroValue3
  t4 := Tryd.underlying4
  a4 := Tryd.isAgg4
  z4 := Tryd.sizeOf4
  v4 := Tryd.zeroValue4
  t21 := Tryd.underlying21
  a21 := Tryd.isAgg21
  z21 := Tryd.sizeOf21
  v21 := Tryd.zeroValue21
  t51 := Tryd.underlying52
  a51 := Tryd.isAgg52
  z51 := Tryd.sizeOf52
  v51 := Tryd.zeroValue52
  t160 := Tryd.underlying44
  a160 := Tryd.isAgg44
  z160 := Tryd.sizeOf44
  v160 := Tryd.zeroValue44
  t206 := Tryd.underlying54
  a206 := Tryd.isAgg54
  z206 := Tryd.sizeOf54
  v206 := Tryd.zeroValue54
  t208 := Tryd.underlying56
  a208 := Tryd.isAgg56
  z208 := Tryd.sizeOf56
  v208 := Tryd.zeroValue56 }
open Go.RowKit Go.Lib in
theorem Tryd.unicode_convertCase (c : Nat) (hc : c < 3) (r : Int) (A o : Nat) (x : CaseRow) (w : World) (hlo : (x.1 : Int) ≤ r) (hhi : r ≤ (x.2.1 : Int)) (hH : x.2.1 < 2147483647) (c0 : w.cell? ⟨A, o, none⟩ = some (.int .u32 x.1)) (cD : w.cell? ⟨A, o + 2 + c, none⟩ = some (.int .i32 (x.delta c))) :
    Calls Tryd.prog 18 #[.int .i64 c, .int .i32 r, .pointer (some ⟨A, o, none⟩)] w fun e w' => e = .returned (.int .i32 (wrap32 (convertR c r x))) ∧ ∃ q, w' = w.drewN q := Any.unicode_convertCase Tryd.lays275 c hc r A o x w hlo hhi hH c0 cD
end Go.Proofs

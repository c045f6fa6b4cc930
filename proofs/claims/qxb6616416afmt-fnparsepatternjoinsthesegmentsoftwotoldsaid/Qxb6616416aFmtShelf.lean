/-
  The shelf's contracts at this dump, in plain words (lay-shelf, lay-plain).
-/
import Derived.Shelf.Small.Strs
import Derived.Shelf.Strings.Search1
import Derived.Shelf.Strings.Search2
import Derived.Shelf.Strings.Search3
import Derived.Shelf.Strings.Count
import Derived.Shelf.LaysM
import Derived.Shelf.Strings.Shaped
import Derived.Shelf.Strings.Prefix
import Derived.Shelf.Strings.Split
import Derived.Shelf.Strings.SplitShaped
import Derived.Shelf.Unicode.DecodeSlow
import Derived.Shelf.Unicode.DecodeAny
import Derived.Test.Qxb6616416aFmtProg
namespace Go.Proofs
open Go.Shelf
def Tryf.lays137_ren : Go.Shelf.Ren := ⟨fun | 137 => 18 | 217 => 24 | 266 => 31 | n => n, fun | 9 => 9 | 5 => 5 | 3 => 3 | n => n, fun | n => n⟩
theorem Tryf.lays137 : Go.Proofs.Lays.n137 Tryf.prog Tryf.lays137_ren := {
  mixed := by kernel_rfl
  f137 := Tryf.func18.trans (congrArg some (by kernel_rfl))
  f217 := Tryf.func24.trans (congrArg some (by kernel_rfl))
  f266 := Tryf.func31.trans (congrArg some (by kernel_rfl))
  t3 := Tryf.underlying3
  a3 := Tryf.isAgg3
  z3 := Tryf.sizeOf3
  v3 := Tryf.zeroValue3
  t5 := Tryf.underlying5
  a5 := Tryf.isAgg5
  z5 := Tryf.sizeOf5
  v5 := Tryf.zeroValue5
  t9 := Tryf.underlying9
  a9 := Tryf.isAgg9
  z9 := Tryf.sizeOf9
  v9 := Tryf.zeroValue9 }
open Go.RowKit in
theorem Tryf.strings_IndexByte (s : ByteArray) (c : Int) (w : World) :
    Calls Tryf.prog 18 #[.string s, .int .u8 c] w fun e w' => e = .returned (.int .i64 (Lib.indexByte s.data.toList c.toNat.toUInt8)) ∧ w' = w := Any.strings_IndexByte Tryf.lays137 s c w
def Tryf.lays217_ren : Go.Shelf.Ren := ⟨fun | 217 => 24 | 266 => 31 | n => n, fun | 9 => 9 | 5 => 5 | 3 => 3 | n => n, fun | n => n⟩
theorem Tryf.lays217 : Go.Proofs.Lays.n217 Tryf.prog Tryf.lays217_ren := {
  mixed := by kernel_rfl
  f217 := Tryf.func24.trans (congrArg some (by kernel_rfl))
  f266 := Tryf.func31.trans (congrArg some (by kernel_rfl))
  t3 := Tryf.underlying3
  a3 := Tryf.isAgg3
  z3 := Tryf.sizeOf3
  v3 := Tryf.zeroValue3
  t5 := Tryf.underlying5
  a5 := Tryf.isAgg5
  z5 := Tryf.sizeOf5
  v5 := Tryf.zeroValue5
  t9 := Tryf.underlying9
  a9 := Tryf.isAgg9
  z9 := Tryf.sizeOf9
  v9 := Tryf.zeroValue9 }
open Go.RowKit Go.Lib in
theorem Tryf.stringslite_IndexByte (s : ByteArray) (c : Int) (w : World) :
    Calls Tryf.prog 24 #[.string s, .int .u8 c] w fun e w' => e = .returned (.int .i64 (Lib.indexByte s.data.toList c.toNat.toUInt8)) ∧ w' = w := Any.stringslite_IndexByte Tryf.lays217 s c w
def Tryf.lays224_ren : Go.Shelf.Ren := ⟨fun | 224 => 33 | n => n, fun | 3 => 3 | n => n, fun | n => n⟩
theorem Tryf.lays224 : Go.Proofs.Lays.n224 Tryf.prog Tryf.lays224_ren := {
  mixed := by kernel_rfl
  f224 := Tryf.func33.trans (congrArg some (by kernel_rfl))
  t3 := Tryf.underlying3
  a3 := Tryf.isAgg3
  z3 := Tryf.sizeOf3
  v3 := Tryf.zeroValue3 }
open Go.RowKit Go.Lib in
theorem Tryf.bytealg_Cutover (n : Int) (h0 : 0 ≤ n) (h1 : n < 4611686018427387904) (w : World) :
    Calls Tryf.prog 33 #[.int .i64 n] w fun e w' => e = .returned (.int .i64 ((n + 16) / 8)) ∧ w' = w := Any.bytealg_Cutover Tryf.lays224 n h0 h1 w
def Tryf.lays314_ren : Go.Shelf.Ren := ⟨fun | 314 => 35 | n => n, fun | 9 => 9 | 51 => 66 | 3 => 3 | 4 => 4 | 5 => 5 | 46 => 59 | n => n, fun | n => n⟩
theorem Tryf.lays314 : Go.Proofs.Lays.n314 Tryf.prog Tryf.lays314_ren := {
  mixed := by kernel_rfl
  f314 := Tryf.func35.trans (congrArg some (by kernel_rfl))
  t3 := Tryf.underlying3
  a3 := Tryf.isAgg3
  z3 := Tryf.sizeOf3
  v3 := Tryf.zeroValue3
  t4 := Tryf.underlying4
  a4 := Tryf.isAgg4
  z4 := Tryf.sizeOf4
  v4 := Tryf.zeroValue4
  t5 := Tryf.underlying5
  a5 := Tryf.isAgg5
  z5 := Tryf.sizeOf5
  v5 := Tryf.zeroValue5
  t9 := Tryf.underlying9
  a9 := Tryf.isAgg9
  z9 := Tryf.sizeOf9
  v9 := Tryf.zeroValue9
  t46 := Tryf.underlying59
  a46 := Tryf.isAgg59
  z46 := Tryf.sizeOf59
  v46 := Tryf.zeroValue59
  t51 := Tryf.underlying66
  a51 := Tryf.isAgg66
  z51 := Tryf.sizeOf66
  v51 := Tryf.zeroValue66 }
open Go.RowKit Go.Lib in
theorem Tryf.bytealg_hashStr (sep : ByteArray) (hs : sep.size < 4294967281) (w : World) :
    Calls Tryf.prog 35 #[.string sep] w fun e w' => e = .returned (.tuple #[.int .u32 (RK.H sep.data.toList % 4294967296), .int .u32 (16777619 ^ sep.size % 4294967296)]) ∧ w' = w := Any.bytealg_hashStr Tryf.lays314 sep hs w
def Tryf.lays267_ren : Go.Shelf.Ren := ⟨fun | 267 => 34 | 314 => 35 | n => n, fun | 9 => 9 | 3 => 3 | 146 => 67 | 51 => 66 | 4 => 4 | 5 => 5 | 46 => 59 | n => n, fun | n => n⟩
theorem Tryf.lays267 : Go.Proofs.Lays.n267 Tryf.prog Tryf.lays267_ren := {
  mixed := by kernel_rfl
  f267 := Tryf.func34.trans (congrArg some (by kernel_rfl))
  f314 := Tryf.func35.trans (congrArg some (by kernel_rfl))
  t3 := Tryf.underlying3
  a3 := Tryf.isAgg3
  z3 := Tryf.sizeOf3
  v3 := Tryf.zeroValue3
  t4 := Tryf.underlying4
  a4 := Tryf.isAgg4
  z4 := Tryf.sizeOf4
  v4 := Tryf.zeroValue4
  t5 := Tryf.underlying5
  a5 := Tryf.isAgg5
  z5 := Tryf.sizeOf5
  v5 := Tryf.zeroValue5
  t9 := Tryf.underlying9
  a9 := Tryf.isAgg9
  z9 := Tryf.sizeOf9
  v9 := Tryf.zeroValue9
  t46 := Tryf.underlying59
  a46 := Tryf.isAgg59
  z46 := Tryf.sizeOf59
  v46 := Tryf.zeroValue59
  t51 := Tryf.underlying66
  a51 := Tryf.isAgg66
  z51 := Tryf.sizeOf66
  v51 := Tryf.zeroValue66
  t146 := Tryf.underlying67
  a146 := Tryf.isAgg67
  z146 := Tryf.sizeOf67
  v146 := Tryf.zeroValue67 }
open Go.RowKit Go.Lib in
theorem Tryf.bytealg_IndexRabinKarp (s sep : ByteArray) (h1 : 1 ≤ sep.size) (h2 : sep.size ≤ s.size) (hs : s.size < 4294967281) (w : World) :
    Calls Tryf.prog 34 #[.string s, .string sep] w fun e w' => e = .returned (.int .i64 (Lib.index s.data.toList sep.data.toList)) ∧ w' = w := Any.bytealg_IndexRabinKarp Tryf.lays267 s sep h1 h2 hs w
def Tryf.lays219_ren : Go.Shelf.Ren := ⟨fun | 219 => 28 | 217 => 24 | 225 => 32 | 224 => 33 | 267 => 34 | 266 => 31 | 314 => 35 | n => n, fun | 9 => 9 | 3 => 3 | 4 => 4 | 5 => 5 | 46 => 59 | 146 => 67 | 51 => 66 | n => n, fun | 1 => 2 | n => n⟩
theorem Tryf.lays219 : Go.Proofs.Lays.n219 Tryf.prog Tryf.lays219_ren := {
  mixed := by kernel_rfl
  f217 := Tryf.func24.trans (congrArg some (by kernel_rfl))
  f219 := Tryf.func28.trans (congrArg some (by kernel_rfl))
  f224 := Tryf.func33.trans (congrArg some (by kernel_rfl))
  f225 := Tryf.func32.trans (congrArg some (by kernel_rfl))
  f266 := Tryf.func31.trans (congrArg some (by kernel_rfl))
  f267 := Tryf.func34.trans (congrArg some (by kernel_rfl))
  f314 := Tryf.func35.trans (congrArg some (by kernel_rfl))
  t3 := Tryf.underlying3
  a3 := Tryf.isAgg3
  z3 := Tryf.sizeOf3
  v3 := Tryf.zeroValue3
  t4 := Tryf.underlying4
  a4 := Tryf.isAgg4
  z4 := Tryf.sizeOf4
  v4 := Tryf.zeroValue4
  t5 := Tryf.underlying5
  a5 := Tryf.isAgg5
  z5 := Tryf.sizeOf5
  v5 := Tryf.zeroValue5
  t9 := Tryf.underlying9
  a9 := Tryf.isAgg9
  z9 := Tryf.sizeOf9
  v9 := Tryf.zeroValue9
  t46 := Tryf.underlying59
  a46 := Tryf.isAgg59
  z46 := Tryf.sizeOf59
  v46 := Tryf.zeroValue59
  t51 := Tryf.underlying66
  a51 := Tryf.isAgg66
  z51 := Tryf.sizeOf66
  v51 := Tryf.zeroValue66
  t146 := Tryf.underlying67
  a146 := Tryf.isAgg67
  z146 := Tryf.sizeOf67
  v146 := Tryf.zeroValue67
  g1 := by kernel_rfl }
open Go.RowKit Go.Lib in
theorem Tryf.stringslite_Index_one (s : ByteArray) (c : UInt8) (w : World) :
    Calls Tryf.prog 28 #[.string s, .string ⟨#[c]⟩] w fun e w' => e = .returned (.int .i64 (Lib.indexByte s.data.toList c)) ∧ w' = w := Any.stringslite_Index_one Tryf.lays219 s c w
open Go.RowKit Go.Lib in
theorem Tryf.stringslite_Index (s sub : ByteArray) (m : Int) (w : World) (hs : s.size < 4294967281) (hm : w.cell? ⟨2, 0, none⟩ = some (.int .i64 m)) :
    Calls Tryf.prog 28 #[.string s, .string sub] w fun e w' => e = .returned (.int .i64 (Lib.index s.data.toList sub.data.toList)) ∧ w' = w := Any.stringslite_Index Tryf.lays219 s sub m w hs hm
def Tryf.lays143_ren : Go.Shelf.Ren := ⟨fun | 143 => 22 | 219 => 28 | 217 => 24 | 225 => 32 | 224 => 33 | 267 => 34 | 266 => 31 | 314 => 35 | n => n, fun | 9 => 9 | 3 => 3 | 4 => 4 | 5 => 5 | 46 => 59 | 146 => 67 | 51 => 66 | n => n, fun | 1 => 2 | n => n⟩
theorem Tryf.lays143 : Go.Proofs.Lays.n143 Tryf.prog Tryf.lays143_ren := {
  mixed := by kernel_rfl
  f143 := Tryf.func22.trans (congrArg some (by kernel_rfl))
  f217 := Tryf.func24.trans (congrArg some (by kernel_rfl))
  f219 := Tryf.func28.trans (congrArg some (by kernel_rfl))
  f224 := Tryf.func33.trans (congrArg some (by kernel_rfl))
  f225 := Tryf.func32.trans (congrArg some (by kernel_rfl))
  f266 := Tryf.func31.trans (congrArg some (by kernel_rfl))
  f267 := Tryf.func34.trans (congrArg some (by kernel_rfl))
  f314 := Tryf.func35.trans (congrArg some (by kernel_rfl))
  t3 := Tryf.underlying3
  a3 := Tryf.isAgg3
  z3 := Tryf.sizeOf3
  v3 := Tryf.zeroValue3
  t4 := Tryf.underlying4
  a4 := Tryf.isAgg4
  z4 := Tryf.sizeOf4
  v4 := Tryf.zeroValue4
  t5 := Tryf.underlying5
  a5 := Tryf.isAgg5
  z5 := Tryf.sizeOf5
  v5 := Tryf.zeroValue5
  t9 := Tryf.underlying9
  a9 := Tryf.isAgg9
  z9 := Tryf.sizeOf9
  v9 := Tryf.zeroValue9
  t46 := Tryf.underlying59
  a46 := Tryf.isAgg59
  z46 := Tryf.sizeOf59
  v46 := Tryf.zeroValue59
  t51 := Tryf.underlying66
  a51 := Tryf.isAgg66
  z51 := Tryf.sizeOf66
  v51 := Tryf.zeroValue66
  t146 := Tryf.underlying67
  a146 := Tryf.isAgg67
  z146 := Tryf.sizeOf67
  v146 := Tryf.zeroValue67
  g1 := by kernel_rfl }
open Go.RowKit Go.Lib in
theorem Tryf.strings_Index_one (s : ByteArray) (c : UInt8) (w : World) :
    Calls Tryf.prog 22 #[.string s, .string ⟨#[c]⟩] w fun e w' => e = .returned (.int .i64 (Lib.indexByte s.data.toList c)) ∧ w' = w := Any.strings_Index_one Tryf.lays143 s c w
open Go.RowKit Go.Lib in
theorem Tryf.strings_Index (s sub : ByteArray) (m : Int) (w : World) (hs : s.size < 4294967281) (hm : w.cell? ⟨2, 0, none⟩ = some (.int .i64 m)) :
    Calls Tryf.prog 22 #[.string s, .string sub] w fun e w' => e = .returned (.int .i64 (Lib.index s.data.toList sub.data.toList)) ∧ w' = w := Any.strings_Index Tryf.lays143 s sub m w hs hm
def Tryf.lays138_ren : Go.Shelf.Ren := ⟨fun | 138 => 21 | 195 => 26 | 218 => 27 | 143 => 22 | 219 => 28 | 217 => 24 | 225 => 32 | 224 => 33 | 267 => 34 | 266 => 31 | 314 => 35 | n => n, fun | 9 => 9 | 3 => 3 | 4 => 4 | 5 => 5 | 0 => 0 | 46 => 59 | 146 => 67 | 51 => 66 | n => n, fun | 1 => 2 | n => n⟩
theorem Tryf.lays138 : Go.Proofs.Lays.n138 Tryf.prog Tryf.lays138_ren := {
  mixed := by kernel_rfl
  f138 := Tryf.func21.trans (congrArg some (by kernel_rfl))
  f143 := Tryf.func22.trans (congrArg some (by kernel_rfl))
  f195 := Tryf.func26.trans (congrArg some (by kernel_rfl))
  f217 := Tryf.func24.trans (congrArg some (by kernel_rfl))
  f218 := Tryf.func27.trans (congrArg some (by kernel_rfl))
  f219 := Tryf.func28.trans (congrArg some (by kernel_rfl))
  f224 := Tryf.func33.trans (congrArg some (by kernel_rfl))
  f225 := Tryf.func32.trans (congrArg some (by kernel_rfl))
  f266 := Tryf.func31.trans (congrArg some (by kernel_rfl))
  f267 := Tryf.func34.trans (congrArg some (by kernel_rfl))
  f314 := Tryf.func35.trans (congrArg some (by kernel_rfl))
  t0 := Tryf.underlying0
  a0 := Tryf.isAgg0
  z0 := Tryf.sizeOf0
  v0 := Tryf.zeroValue0
  t3 := Tryf.underlying3
  a3 := Tryf.isAgg3
  z3 := Tryf.sizeOf3
  v3 := Tryf.zeroValue3
  t4 := Tryf.underlying4
  a4 := Tryf.isAgg4
  z4 := Tryf.sizeOf4
  v4 := Tryf.zeroValue4
  t5 := Tryf.underlying5
  a5 := Tryf.isAgg5
  z5 := Tryf.sizeOf5
  v5 := Tryf.zeroValue5
  t9 := Tryf.underlying9
  a9 := Tryf.isAgg9
  z9 := Tryf.sizeOf9
  v9 := Tryf.zeroValue9
  t46 := Tryf.underlying59
  a46 := Tryf.isAgg59
  z46 := Tryf.sizeOf59
  v46 := Tryf.zeroValue59
  t51 := Tryf.underlying66
  a51 := Tryf.isAgg66
  z51 := Tryf.sizeOf66
  v51 := Tryf.zeroValue66
  t146 := Tryf.underlying67
  a146 := Tryf.isAgg67
  z146 := Tryf.sizeOf67
  v146 := Tryf.zeroValue67
  g1 := by kernel_rfl }
open Go.RowKit Go.Lib in
theorem Tryf.strings_Count_one (s : ByteArray) (c : UInt8) (w : World) :
    Calls Tryf.prog 21 #[.string s, .string ⟨#[c]⟩] w fun e w' => e = .returned (.int .i64 (Lib.countByte s.data.toList c)) ∧ w' = w := Any.strings_Count_one Tryf.lays138 s c w
open Go.RowKit Go.Lib in
theorem Tryf.strings_Count (s sub : ByteArray) (m : Int) (w : World) (hs : s.size < 4294967281) (hm : w.cell? ⟨2, 0, none⟩ = some (.int .i64 m)) (h2 : 2 ≤ sub.size) :
    Calls Tryf.prog 21 #[.string s, .string sub] w fun e w' => e = .returned (.int .i64 (Lib.countB s sub)) ∧ w' = w := Any.strings_Count Tryf.lays138 s sub m w hs hm h2
def Tryf.laysM219_ren : Go.Shelf.Ren := ⟨fun | 219 => 28 | 217 => 24 | 225 => 32 | 224 => 33 | 267 => 34 | 266 => 31 | 314 => 35 | n => n, fun | 9 => 9 | 3 => 3 | 4 => 4 | 5 => 5 | 46 => 59 | 146 => 67 | 51 => 66 | n => n, fun | 1 => 2 | n => n⟩
theorem Tryf.laysM219 : Go.Proofs.LaysM.n219 Tryf.prog Tryf.laysM219_ren := {
  mixed := by kernel_rfl
  f217 := Tryf.func24.trans (congrArg some (by kernel_rfl))
  f219 := Tryf.func28.trans (congrArg some (by kernel_rfl))
  f224 := Tryf.func33.trans (congrArg some (by kernel_rfl))
  f225 := Tryf.func32.trans (congrArg some (by kernel_rfl))
  f266 := Tryf.func31.trans (congrArg some (by kernel_rfl))
  f267 := Tryf.func34.trans (congrArg some (by kernel_rfl))
  f314 := Tryf.func35.trans (congrArg some (by kernel_rfl))
  t3 := Tryf.underlying3
  a3 := Tryf.isAgg3
  z3 := Tryf.sizeOf3
  v3 := Tryf.zeroValue3
  t4 := Tryf.underlying4
  a4 := Tryf.isAgg4
  z4 := Tryf.sizeOf4
  v4 := Tryf.zeroValue4
  t5 := Tryf.underlying5
  a5 := Tryf.isAgg5
  z5 := Tryf.sizeOf5
  v5 := Tryf.zeroValue5
  t9 := Tryf.underlying9
  a9 := Tryf.isAgg9
  z9 := Tryf.sizeOf9
  v9 := Tryf.zeroValue9
  t46 := Tryf.underlying59
  a46 := Tryf.isAgg59
  z46 := Tryf.sizeOf59
  v46 := Tryf.zeroValue59
  t51 := Tryf.underlying66
  a51 := Tryf.isAgg66
  z51 := Tryf.sizeOf66
  v51 := Tryf.zeroValue66
  t146 := Tryf.underlying67
  a146 := Tryf.isAgg67
  z146 := Tryf.sizeOf67
  v146 := Tryf.zeroValue67
  g1 := by kernel_rfl
  i3 := by kernel_rfl
  i4 := by kernel_rfl
  i5 := by kernel_rfl
  i9 := by kernel_rfl
  i46 := by kernel_rfl
  i51 := by kernel_rfl
  i146 := by kernel_rfl
  m1 := by kernel_rfl
  s1_3 := fun w h => Go.Proofs.cell_of_shapedOpen_int (zero := #[.int .i64 0]) (t := 3) h (of_decide_eq_true (by kernel_rfl)) (by kernel_rfl) rfl (by kernel_rfl) (by kernel_rfl) Tryf.underlying3 }
open Go.RowKit Go.Lib in
theorem Tryf.stringslite_Index_shaped (s sub : ByteArray) (w : World) (h : w.ShapedOpen Tryf.prog) (hs : s.size < 4294967281) :
    Calls Tryf.prog 28 #[.string s, .string sub] w fun e w' => e = .returned (.int .i64 (Lib.index s.data.toList sub.data.toList)) ∧ w' = w := Any.stringslite_Index_shaped Tryf.laysM219 s sub w h hs
def Tryf.laysM143_ren : Go.Shelf.Ren := ⟨fun | 143 => 22 | 219 => 28 | 217 => 24 | 225 => 32 | 224 => 33 | 267 => 34 | 266 => 31 | 314 => 35 | n => n, fun | 9 => 9 | 3 => 3 | 4 => 4 | 5 => 5 | 46 => 59 | 146 => 67 | 51 => 66 | n => n, fun | 1 => 2 | n => n⟩
theorem Tryf.laysM143 : Go.Proofs.LaysM.n143 Tryf.prog Tryf.laysM143_ren := {
  mixed := by kernel_rfl
  f143 := Tryf.func22.trans (congrArg some (by kernel_rfl))
  f217 := Tryf.func24.trans (congrArg some (by kernel_rfl))
  f219 := Tryf.func28.trans (congrArg some (by kernel_rfl))
  f224 := Tryf.func33.trans (congrArg some (by kernel_rfl))
  f225 := Tryf.func32.trans (congrArg some (by kernel_rfl))
  f266 := Tryf.func31.trans (congrArg some (by kernel_rfl))
  f267 := Tryf.func34.trans (congrArg some (by kernel_rfl))
  f314 := Tryf.func35.trans (congrArg some (by kernel_rfl))
  t3 := Tryf.underlying3
  a3 := Tryf.isAgg3
  z3 := Tryf.sizeOf3
  v3 := Tryf.zeroValue3
  t4 := Tryf.underlying4
  a4 := Tryf.isAgg4
  z4 := Tryf.sizeOf4
  v4 := Tryf.zeroValue4
  t5 := Tryf.underlying5
  a5 := Tryf.isAgg5
  z5 := Tryf.sizeOf5
  v5 := Tryf.zeroValue5
  t9 := Tryf.underlying9
  a9 := Tryf.isAgg9
  z9 := Tryf.sizeOf9
  v9 := Tryf.zeroValue9
  t46 := Tryf.underlying59
  a46 := Tryf.isAgg59
  z46 := Tryf.sizeOf59
  v46 := Tryf.zeroValue59
  t51 := Tryf.underlying66
  a51 := Tryf.isAgg66
  z51 := Tryf.sizeOf66
  v51 := Tryf.zeroValue66
  t146 := Tryf.underlying67
  a146 := Tryf.isAgg67
  z146 := Tryf.sizeOf67
  v146 := Tryf.zeroValue67
  g1 := by kernel_rfl
  i3 := by kernel_rfl
  i4 := by kernel_rfl
  i5 := by kernel_rfl
  i9 := by kernel_rfl
  i46 := by kernel_rfl
  i51 := by kernel_rfl
  i146 := by kernel_rfl
  m1 := by kernel_rfl
  s1_3 := fun w h => Go.Proofs.cell_of_shapedOpen_int (zero := #[.int .i64 0]) (t := 3) h (of_decide_eq_true (by kernel_rfl)) (by kernel_rfl) rfl (by kernel_rfl) (by kernel_rfl) Tryf.underlying3 }
open Go.RowKit Go.Lib in
theorem Tryf.strings_Index_shaped (s sub : ByteArray) (w : World) (h : w.ShapedOpen Tryf.prog) (hs : s.size < 4294967281) :
    Calls Tryf.prog 22 #[.string s, .string sub] w fun e w' => e = .returned (.int .i64 (Lib.index s.data.toList sub.data.toList)) ∧ w' = w := Any.strings_Index_shaped Tryf.laysM143 s sub w h hs
def Tryf.laysM138_ren : Go.Shelf.Ren := ⟨fun | 138 => 21 | 195 => 26 | 218 => 27 | 143 => 22 | 219 => 28 | 217 => 24 | 225 => 32 | 224 => 33 | 267 => 34 | 266 => 31 | 314 => 35 | n => n, fun | 9 => 9 | 3 => 3 | 4 => 4 | 5 => 5 | 0 => 0 | 46 => 59 | 146 => 67 | 51 => 66 | n => n, fun | 1 => 2 | n => n⟩
theorem Tryf.laysM138 : Go.Proofs.LaysM.n138 Tryf.prog Tryf.laysM138_ren := {
  mixed := by kernel_rfl
  f138 := Tryf.func21.trans (congrArg some (by kernel_rfl))
  f143 := Tryf.func22.trans (congrArg some (by kernel_rfl))
  f195 := Tryf.func26.trans (congrArg some (by kernel_rfl))
  f217 := Tryf.func24.trans (congrArg some (by kernel_rfl))
  f218 := Tryf.func27.trans (congrArg some (by kernel_rfl))
  f219 := Tryf.func28.trans (congrArg some (by kernel_rfl))
  f224 := Tryf.func33.trans (congrArg some (by kernel_rfl))
  f225 := Tryf.func32.trans (congrArg some (by kernel_rfl))
  f266 := Tryf.func31.trans (congrArg some (by kernel_rfl))
  f267 := Tryf.func34.trans (congrArg some (by kernel_rfl))
  f314 := Tryf.func35.trans (congrArg some (by kernel_rfl))
  t0 := Tryf.underlying0
  a0 := Tryf.isAgg0
  z0 := Tryf.sizeOf0
  v0 := Tryf.zeroValue0
  t3 := Tryf.underlying3
  a3 := Tryf.isAgg3
  z3 := Tryf.sizeOf3
  v3 := Tryf.zeroValue3
  t4 := Tryf.underlying4
  a4 := Tryf.isAgg4
  z4 := Tryf.sizeOf4
  v4 := Tryf.zeroValue4
  t5 := Tryf.underlying5
  a5 := Tryf.isAgg5
  z5 := Tryf.sizeOf5
  v5 := Tryf.zeroValue5
  t9 := Tryf.underlying9
  a9 := Tryf.isAgg9
  z9 := Tryf.sizeOf9
  v9 := Tryf.zeroValue9
  t46 := Tryf.underlying59
  a46 := Tryf.isAgg59
  z46 := Tryf.sizeOf59
  v46 := Tryf.zeroValue59
  t51 := Tryf.underlying66
  a51 := Tryf.isAgg66
  z51 := Tryf.sizeOf66
  v51 := Tryf.zeroValue66
  t146 := Tryf.underlying67
  a146 := Tryf.isAgg67
  z146 := Tryf.sizeOf67
  v146 := Tryf.zeroValue67
  g1 := by kernel_rfl
  i0 := by kernel_rfl
  i3 := by kernel_rfl
  i4 := by kernel_rfl
  i5 := by kernel_rfl
  i9 := by kernel_rfl
  i46 := by kernel_rfl
  i51 := by kernel_rfl
  i146 := by kernel_rfl
  m1 := by kernel_rfl
  s1_3 := fun w h => Go.Proofs.cell_of_shapedOpen_int (zero := #[.int .i64 0]) (t := 3) h (of_decide_eq_true (by kernel_rfl)) (by kernel_rfl) rfl (by kernel_rfl) (by kernel_rfl) Tryf.underlying3 }
open Go.RowKit Go.Lib in
theorem Tryf.strings_Count_shaped (s sub : ByteArray) (w : World) (h : w.ShapedOpen Tryf.prog) (hs : s.size < 4294967281) (h2 : 2 ≤ sub.size) :
    Calls Tryf.prog 21 #[.string s, .string sub] w fun e w' => e = .returned (.int .i64 (Lib.countB s sub)) ∧ w' = w := Any.strings_Count_shaped Tryf.laysM138 s sub w h hs h2
def Tryf.lays206_ren : Go.Shelf.Ren := ⟨fun | 206 => 15 | n => n, fun | 9 => 9 | 4 => 4 | 3 => 3 | n => n, fun | n => n⟩
theorem Tryf.lays206 : Go.Proofs.Lays.n206 Tryf.prog Tryf.lays206_ren := {
  mixed := by kernel_rfl
  f206 := Tryf.func15.trans (congrArg some (by kernel_rfl))
  t3 := Tryf.underlying3
  a3 := Tryf.isAgg3
  z3 := Tryf.sizeOf3
  v3 := Tryf.zeroValue3
  t4 := Tryf.underlying4
  a4 := Tryf.isAgg4
  z4 := Tryf.sizeOf4
  v4 := Tryf.zeroValue4
  t9 := Tryf.underlying9
  a9 := Tryf.isAgg9
  z9 := Tryf.sizeOf9
  v9 := Tryf.zeroValue9 }
open Go.RowKit Go.Lib in
theorem Tryf.stringslite_HasPrefix (s p : ByteArray) (w : World) :
    Calls Tryf.prog 15 #[.string s, .string p] w fun e w' => e = .returned (.bool (Lib.hasPrefix s.data.toList p.data.toList)) ∧ w' = w := Any.stringslite_HasPrefix Tryf.lays206 s p w
def Tryf.lays99_ren : Go.Shelf.Ren := ⟨fun | 99 => 11 | 206 => 15 | n => n, fun | 9 => 9 | 4 => 4 | 3 => 3 | n => n, fun | n => n⟩
theorem Tryf.lays99 : Go.Proofs.Lays.n99 Tryf.prog Tryf.lays99_ren := {
  mixed := by kernel_rfl
  f99 := Tryf.func11.trans (congrArg some (by kernel_rfl))
  f206 := Tryf.func15.trans (congrArg some (by kernel_rfl))
  t3 := Tryf.underlying3
  a3 := Tryf.isAgg3
  z3 := Tryf.sizeOf3
  v3 := Tryf.zeroValue3
  t4 := Tryf.underlying4
  a4 := Tryf.isAgg4
  z4 := Tryf.sizeOf4
  v4 := Tryf.zeroValue4
  t9 := Tryf.underlying9
  a9 := Tryf.isAgg9
  z9 := Tryf.sizeOf9
  v9 := Tryf.zeroValue9 }
open Go.RowKit Go.Lib in
theorem Tryf.strings_HasPrefix (s p : ByteArray) (w : World) :
    Calls Tryf.prog 11 #[.string s, .string p] w fun e w' => e = .returned (.bool (Lib.hasPrefix s.data.toList p.data.toList)) ∧ w' = w := Any.strings_HasPrefix Tryf.lays99 s p w
open Go.RowKit Go.Lib in
theorem Tryf.strings_Count_any (s sep : ByteArray) (m : Int) (w : World) (hs : s.size < 4294967281) (hm : w.cell? ⟨2, 0, none⟩ = some (.int .i64 m)) (h1 : 1 ≤ sep.size) :
    Calls Tryf.prog 21 #[.string s, .string sep] w fun e w' => e = .returned (.int .i64 (Lib.countB s sep)) ∧ w' = w := Any.strings_Count_any Tryf.lays138 s sep m w hs hm h1
def Tryf.lays221_ren : Go.Shelf.Ren := ⟨fun | 221 => 16 | 268 => 20 | 138 => 21 | 143 => 22 | 195 => 26 | 197 => 19 | 218 => 27 | 219 => 28 | 260 => 25 | 217 => 24 | 225 => 32 | 224 => 33 | 267 => 34 | 266 => 31 | 314 => 35 | n => n, fun | 9 => 9 | 3 => 3 | 31 => 31 | 4 => 4 | 0 => 0 | 105 => 50 | 21 => 21 | 5 => 5 | 46 => 59 | 119 => 61 | 139 => 64 | 138 => 63 | 146 => 67 | 51 => 66 | n => n, fun | 1 => 2 | 3 => 0 | 4 => 1 | n => n⟩
theorem Tryf.lays221 : Go.Proofs.Lays.n221 Tryf.prog Tryf.lays221_ren := {
  mixed := by kernel_rfl
  f138 := Tryf.func21.trans (congrArg some (by kernel_rfl))
  f143 := Tryf.func22.trans (congrArg some (by kernel_rfl))
  f195 := Tryf.func26.trans (congrArg some (by kernel_rfl))
  f197 := Tryf.func19.trans (congrArg some (by kernel_rfl))
  f217 := Tryf.func24.trans (congrArg some (by kernel_rfl))
  f218 := Tryf.func27.trans (congrArg some (by kernel_rfl))
  f219 := Tryf.func28.trans (congrArg some (by kernel_rfl))
  f221 := Tryf.func16.trans (congrArg some (by kernel_rfl))
  f224 := Tryf.func33.trans (congrArg some (by kernel_rfl))
  f225 := Tryf.func32.trans (congrArg some (by kernel_rfl))
  f260 := Tryf.func25.trans (congrArg some (by kernel_rfl))
  f266 := Tryf.func31.trans (congrArg some (by kernel_rfl))
  f267 := Tryf.func34.trans (congrArg some (by kernel_rfl))
  f268 := Tryf.func20.trans (congrArg some (by kernel_rfl))
  f314 := Tryf.func35.trans (congrArg some (by kernel_rfl))
  t0 := Tryf.underlying0
  a0 := Tryf.isAgg0
  z0 := Tryf.sizeOf0
  v0 := Tryf.zeroValue0
  t3 := Tryf.underlying3
  a3 := Tryf.isAgg3
  z3 := Tryf.sizeOf3
  v3 := Tryf.zeroValue3
  t4 := Tryf.underlying4
  a4 := Tryf.isAgg4
  z4 := Tryf.sizeOf4
  v4 := Tryf.zeroValue4
  t5 := Tryf.underlying5
  a5 := Tryf.isAgg5
  z5 := Tryf.sizeOf5
  v5 := Tryf.zeroValue5
  t9 := Tryf.underlying9
  a9 := Tryf.isAgg9
  z9 := Tryf.sizeOf9
  v9 := Tryf.zeroValue9
  t21 := Tryf.underlying21
  a21 := Tryf.isAgg21
  z21 := Tryf.sizeOf21
  v21 := Tryf.zeroValue21
  t31 := Tryf.underlying31
  a31 := Tryf.isAgg31
  z31 := Tryf.sizeOf31
  v31 := Tryf.zeroValue31
  t46 := Tryf.underlying59
  a46 := Tryf.isAgg59
  z46 := Tryf.sizeOf59
  v46 := Tryf.zeroValue59
  t51 := Tryf.underlying66
  a51 := Tryf.isAgg66
  z51 := Tryf.sizeOf66
  v51 := Tryf.zeroValue66
  t105 := Tryf.underlying50
  a105 := Tryf.isAgg50
  z105 := Tryf.sizeOf50
  v105 := Tryf.zeroValue50
  t119 := Tryf.underlying61
  a119 := Tryf.isAgg61
  z119 := Tryf.sizeOf61
  t138 := Tryf.underlying63
  a138 := Tryf.isAgg63
  z138 := Tryf.sizeOf63
  v138 := Tryf.zeroValue63
  t139 := Tryf.underlying64
  a139 := Tryf.isAgg64
  z139 := Tryf.sizeOf64
  v139 := Tryf.zeroValue64
  t146 := Tryf.underlying67
  a146 := Tryf.isAgg67
  z146 := Tryf.sizeOf67
  v146 := Tryf.zeroValue67
  g1 := by kernel_rfl
  g3 := by kernel_rfl
  g4 := by kernel_rfl }
open Go.RowKit Go.Lib in
theorem Tryf.strings_genSplit (s sep : ByteArray) (sv : Nat) (n : Int) (N : Nat) (m : Int) (w : World) (hs : s.size < 4294967281) (hm : w.cell? ⟨2, 0, none⟩ = some (.int .i64 m)) (h1 : 1 ≤ sep.size) (hsv : sv ≤ sep.size) (hn0 : n ≠ 0) (hn63 : n ≤ 9223372036854775807) (hN : (N : Int) = min (if n < 0 then (Lib.countB s sep : Int) + 1 else n) ((s.size : Int) + 1)) :
    Calls Tryf.prog 16 #[.string s, .string sep, .int .i64 sv, .int .i64 n] w fun e w' =>
      e = .returned (.slice (some ⟨w.heap.size, 0, none⟩) (Lib.splitB sep sv (N - 1) s).length N) ∧ w' = w.alloc (.cells (Lib.cellsOf (Lib.splitB sep sv (N - 1) s) N) 9) := Any.strings_genSplit Tryf.lays221 (by kernel_rfl) s sep sv n N m w hs hm h1 hsv hn0 hn63 hN
def Tryf.lays146_ren : Go.Shelf.Ren := ⟨fun | 146 => 12 | 221 => 16 | 268 => 20 | 138 => 21 | 143 => 22 | 195 => 26 | 197 => 19 | 218 => 27 | 219 => 28 | 260 => 25 | 217 => 24 | 225 => 32 | 224 => 33 | 267 => 34 | 266 => 31 | 314 => 35 | n => n, fun | 9 => 9 | 31 => 31 | 3 => 3 | 4 => 4 | 0 => 0 | 105 => 50 | 21 => 21 | 5 => 5 | 46 => 59 | 119 => 61 | 139 => 64 | 138 => 63 | 146 => 67 | 51 => 66 | n => n, fun | 1 => 2 | 3 => 0 | 4 => 1 | n => n⟩
theorem Tryf.lays146 : Go.Proofs.Lays.n146 Tryf.prog Tryf.lays146_ren := {
  mixed := by kernel_rfl
  f138 := Tryf.func21.trans (congrArg some (by kernel_rfl))
  f143 := Tryf.func22.trans (congrArg some (by kernel_rfl))
  f146 := Tryf.func12.trans (congrArg some (by kernel_rfl))
  f195 := Tryf.func26.trans (congrArg some (by kernel_rfl))
  f197 := Tryf.func19.trans (congrArg some (by kernel_rfl))
  f217 := Tryf.func24.trans (congrArg some (by kernel_rfl))
  f218 := Tryf.func27.trans (congrArg some (by kernel_rfl))
  f219 := Tryf.func28.trans (congrArg some (by kernel_rfl))
  f221 := Tryf.func16.trans (congrArg some (by kernel_rfl))
  f224 := Tryf.func33.trans (congrArg some (by kernel_rfl))
  f225 := Tryf.func32.trans (congrArg some (by kernel_rfl))
  f260 := Tryf.func25.trans (congrArg some (by kernel_rfl))
  f266 := Tryf.func31.trans (congrArg some (by kernel_rfl))
  f267 := Tryf.func34.trans (congrArg some (by kernel_rfl))
  f268 := Tryf.func20.trans (congrArg some (by kernel_rfl))
  f314 := Tryf.func35.trans (congrArg some (by kernel_rfl))
  t0 := Tryf.underlying0
  a0 := Tryf.isAgg0
  z0 := Tryf.sizeOf0
  v0 := Tryf.zeroValue0
  t3 := Tryf.underlying3
  a3 := Tryf.isAgg3
  z3 := Tryf.sizeOf3
  v3 := Tryf.zeroValue3
  t4 := Tryf.underlying4
  a4 := Tryf.isAgg4
  z4 := Tryf.sizeOf4
  v4 := Tryf.zeroValue4
  t5 := Tryf.underlying5
  a5 := Tryf.isAgg5
  z5 := Tryf.sizeOf5
  v5 := Tryf.zeroValue5
  t9 := Tryf.underlying9
  a9 := Tryf.isAgg9
  z9 := Tryf.sizeOf9
  v9 := Tryf.zeroValue9
  t21 := Tryf.underlying21
  a21 := Tryf.isAgg21
  z21 := Tryf.sizeOf21
  v21 := Tryf.zeroValue21
  t31 := Tryf.underlying31
  a31 := Tryf.isAgg31
  z31 := Tryf.sizeOf31
  v31 := Tryf.zeroValue31
  t46 := Tryf.underlying59
  a46 := Tryf.isAgg59
  z46 := Tryf.sizeOf59
  v46 := Tryf.zeroValue59
  t51 := Tryf.underlying66
  a51 := Tryf.isAgg66
  z51 := Tryf.sizeOf66
  v51 := Tryf.zeroValue66
  t105 := Tryf.underlying50
  a105 := Tryf.isAgg50
  z105 := Tryf.sizeOf50
  v105 := Tryf.zeroValue50
  t119 := Tryf.underlying61
  a119 := Tryf.isAgg61
  z119 := Tryf.sizeOf61
  t138 := Tryf.underlying63
  a138 := Tryf.isAgg63
  z138 := Tryf.sizeOf63
  v138 := Tryf.zeroValue63
  t139 := Tryf.underlying64
  a139 := Tryf.isAgg64
  z139 := Tryf.sizeOf64
  v139 := Tryf.zeroValue64
  t146 := Tryf.underlying67
  a146 := Tryf.isAgg67
  z146 := Tryf.sizeOf67
  v146 := Tryf.zeroValue67
  g1 := by kernel_rfl
  g3 := by kernel_rfl
  g4 := by kernel_rfl }
open Go.RowKit Go.Lib in
theorem Tryf.strings_Split (s sep : ByteArray) (m : Int) (w : World) (hs : s.size < 4294967281) (hm : w.cell? ⟨2, 0, none⟩ = some (.int .i64 m)) (h1 : 1 ≤ sep.size) :
    Calls Tryf.prog 12 #[.string s, .string sep] w fun e w' =>
      e = .returned (.slice (some ⟨w.heap.size, 0, none⟩) (Lib.countB s sep + 1) (Lib.countB s sep + 1)) ∧ w' = w.alloc (.cells ((Lib.splitB sep 0 (Lib.countB s sep) s).map Value.string).toArray 9) := Any.strings_Split Tryf.lays146 (by kernel_rfl) s sep m w hs hm h1
def Tryf.laysM146_ren : Go.Shelf.Ren := ⟨fun | 146 => 12 | 221 => 16 | 268 => 20 | 138 => 21 | 143 => 22 | 195 => 26 | 197 => 19 | 218 => 27 | 219 => 28 | 260 => 25 | 217 => 24 | 225 => 32 | 224 => 33 | 267 => 34 | 266 => 31 | 314 => 35 | n => n, fun | 9 => 9 | 31 => 31 | 3 => 3 | 4 => 4 | 0 => 0 | 105 => 50 | 21 => 21 | 5 => 5 | 46 => 59 | 119 => 61 | 139 => 64 | 138 => 63 | 146 => 67 | 51 => 66 | n => n, fun | 1 => 2 | 3 => 0 | 4 => 1 | n => n⟩
theorem Tryf.laysM146 : Go.Proofs.LaysM.n146 Tryf.prog Tryf.laysM146_ren := {
  mixed := by kernel_rfl
  f138 := Tryf.func21.trans (congrArg some (by kernel_rfl))
  f143 := Tryf.func22.trans (congrArg some (by kernel_rfl))
  f146 := Tryf.func12.trans (congrArg some (by kernel_rfl))
  f195 := Tryf.func26.trans (congrArg some (by kernel_rfl))
  f197 := Tryf.func19.trans (congrArg some (by kernel_rfl))
  f217 := Tryf.func24.trans (congrArg some (by kernel_rfl))
  f218 := Tryf.func27.trans (congrArg some (by kernel_rfl))
  f219 := Tryf.func28.trans (congrArg some (by kernel_rfl))
  f221 := Tryf.func16.trans (congrArg some (by kernel_rfl))
  f224 := Tryf.func33.trans (congrArg some (by kernel_rfl))
  f225 := Tryf.func32.trans (congrArg some (by kernel_rfl))
  f260 := Tryf.func25.trans (congrArg some (by kernel_rfl))
  f266 := Tryf.func31.trans (congrArg some (by kernel_rfl))
  f267 := Tryf.func34.trans (congrArg some (by kernel_rfl))
  f268 := Tryf.func20.trans (congrArg some (by kernel_rfl))
  f314 := Tryf.func35.trans (congrArg some (by kernel_rfl))
  t0 := Tryf.underlying0
  a0 := Tryf.isAgg0
  z0 := Tryf.sizeOf0
  v0 := Tryf.zeroValue0
  t3 := Tryf.underlying3
  a3 := Tryf.isAgg3
  z3 := Tryf.sizeOf3
  v3 := Tryf.zeroValue3
  t4 := Tryf.underlying4
  a4 := Tryf.isAgg4
  z4 := Tryf.sizeOf4
  v4 := Tryf.zeroValue4
  t5 := Tryf.underlying5
  a5 := Tryf.isAgg5
  z5 := Tryf.sizeOf5
  v5 := Tryf.zeroValue5
  t9 := Tryf.underlying9
  a9 := Tryf.isAgg9
  z9 := Tryf.sizeOf9
  v9 := Tryf.zeroValue9
  t21 := Tryf.underlying21
  a21 := Tryf.isAgg21
  z21 := Tryf.sizeOf21
  v21 := Tryf.zeroValue21
  t31 := Tryf.underlying31
  a31 := Tryf.isAgg31
  z31 := Tryf.sizeOf31
  v31 := Tryf.zeroValue31
  t46 := Tryf.underlying59
  a46 := Tryf.isAgg59
  z46 := Tryf.sizeOf59
  v46 := Tryf.zeroValue59
  t51 := Tryf.underlying66
  a51 := Tryf.isAgg66
  z51 := Tryf.sizeOf66
  v51 := Tryf.zeroValue66
  t105 := Tryf.underlying50
  a105 := Tryf.isAgg50
  z105 := Tryf.sizeOf50
  v105 := Tryf.zeroValue50
  t119 := Tryf.underlying61
  a119 := Tryf.isAgg61
  z119 := Tryf.sizeOf61
  t138 := Tryf.underlying63
  a138 := Tryf.isAgg63
  z138 := Tryf.sizeOf63
  v138 := Tryf.zeroValue63
  t139 := Tryf.underlying64
  a139 := Tryf.isAgg64
  z139 := Tryf.sizeOf64
  v139 := Tryf.zeroValue64
  t146 := Tryf.underlying67
  a146 := Tryf.isAgg67
  z146 := Tryf.sizeOf67
  v146 := Tryf.zeroValue67
  g1 := by kernel_rfl
  g3 := by kernel_rfl
  g4 := by kernel_rfl
  i0 := by kernel_rfl
  i3 := by kernel_rfl
  i4 := by kernel_rfl
  i5 := by kernel_rfl
  i9 := by kernel_rfl
  i21 := by kernel_rfl
  i31 := by kernel_rfl
  i46 := by kernel_rfl
  i51 := by kernel_rfl
  i105 := by kernel_rfl
  i138 := by kernel_rfl
  i139 := by kernel_rfl
  i146 := by kernel_rfl
  m1 := by kernel_rfl
  s1_3 := fun w h => Go.Proofs.cell_of_shapedOpen_int (zero := #[.int .i64 0]) (t := 3) h (of_decide_eq_true (by kernel_rfl)) (by kernel_rfl) rfl (by kernel_rfl) (by kernel_rfl) Tryf.underlying3
  m3 := by kernel_rfl
  m4 := by kernel_rfl }
open Go.RowKit Go.Lib in
theorem Tryf.strings_Split_shaped (s sep : ByteArray) (w : World) (h : w.ShapedOpen Tryf.prog) (hs : s.size < 4294967281) (h1 : 1 ≤ sep.size) :
    Calls Tryf.prog 12 #[.string s, .string sep] w fun e w' =>
      e = .returned (.slice (some ⟨w.heap.size, 0, none⟩) (Lib.countB s sep + 1) (Lib.countB s sep + 1)) ∧ w' = w.alloc (.cells ((Lib.splitB sep 0 (Lib.countB s sep) s).map Value.string).toArray 9) := Any.strings_Split_shaped Tryf.laysM146 s sep w h hs h1
def Tryf.lays260_ren : Go.Shelf.Ren := ⟨fun | 260 => 25 | n => n, fun | 9 => 9 | 21 => 21 | 3 => 3 | 4 => 4 | 5 => 5 | 119 => 61 | 0 => 0 | 46 => 59 | 139 => 64 | 138 => 63 | n => n, fun | 3 => 0 | 4 => 1 | n => n⟩
theorem Tryf.lays260 : Go.Proofs.Lays.n260 Tryf.prog Tryf.lays260_ren := {
  mixed := by kernel_rfl
  f260 := Tryf.func25.trans (congrArg some (by kernel_rfl))
  t0 := Tryf.underlying0
  a0 := Tryf.isAgg0
  z0 := Tryf.sizeOf0
  v0 := Tryf.zeroValue0
  t3 := Tryf.underlying3
  a3 := Tryf.isAgg3
  z3 := Tryf.sizeOf3
  v3 := Tryf.zeroValue3
  t4 := Tryf.underlying4
  a4 := Tryf.isAgg4
  z4 := Tryf.sizeOf4
  v4 := Tryf.zeroValue4
  t5 := Tryf.underlying5
  a5 := Tryf.isAgg5
  z5 := Tryf.sizeOf5
  v5 := Tryf.zeroValue5
  t9 := Tryf.underlying9
  a9 := Tryf.isAgg9
  z9 := Tryf.sizeOf9
  v9 := Tryf.zeroValue9
  t21 := Tryf.underlying21
  a21 := Tryf.isAgg21
  z21 := Tryf.sizeOf21
  v21 := Tryf.zeroValue21
  t46 := Tryf.underlying59
  a46 := Tryf.isAgg59
  z46 := Tryf.sizeOf59
  v46 := Tryf.zeroValue59
  t119 := Tryf.underlying61
  a119 := Tryf.isAgg61
  z119 := Tryf.sizeOf61
  t138 := Tryf.underlying63
  a138 := Tryf.isAgg63
  z138 := Tryf.sizeOf63
  v138 := Tryf.zeroValue63
  t139 := Tryf.underlying64
  a139 := Tryf.isAgg64
  z139 := Tryf.sizeOf64
  v139 := Tryf.zeroValue64
  g3 := by kernel_rfl
  g4 := by kernel_rfl }
open Go.RowKit Go.Lib in
theorem Tryf.utf8_decodeRuneInStringSlow (s : ByteArray) (w : World) (hT : Lib.Utf8Tabs 0 1 w) :
    Calls Tryf.prog 25 #[.string s] w fun e w' => e = .returned (.tuple #[.int .i32 (Lib.decodeGo s).1, .int .i64 (Lib.decodeGo s).2]) ∧ Below w.heap.size w w' := Any.utf8_decodeRuneInStringSlow Tryf.lays260 s w hT
def Tryf.lays197_ren : Go.Shelf.Ren := ⟨fun | 197 => 19 | 260 => 25 | n => n, fun | 9 => 9 | 21 => 21 | 3 => 3 | 4 => 4 | 5 => 5 | 105 => 50 | 119 => 61 | 0 => 0 | 46 => 59 | 139 => 64 | 138 => 63 | n => n, fun | 3 => 0 | 4 => 1 | n => n⟩
theorem Tryf.lays197 : Go.Proofs.Lays.n197 Tryf.prog Tryf.lays197_ren := {
  mixed := by kernel_rfl
  f197 := Tryf.func19.trans (congrArg some (by kernel_rfl))
  f260 := Tryf.func25.trans (congrArg some (by kernel_rfl))
  t0 := Tryf.underlying0
  a0 := Tryf.isAgg0
  z0 := Tryf.sizeOf0
  v0 := Tryf.zeroValue0
  t3 := Tryf.underlying3
  a3 := Tryf.isAgg3
  z3 := Tryf.sizeOf3
  v3 := Tryf.zeroValue3
  t4 := Tryf.underlying4
  a4 := Tryf.isAgg4
  z4 := Tryf.sizeOf4
  v4 := Tryf.zeroValue4
  t5 := Tryf.underlying5
  a5 := Tryf.isAgg5
  z5 := Tryf.sizeOf5
  v5 := Tryf.zeroValue5
  t9 := Tryf.underlying9
  a9 := Tryf.isAgg9
  z9 := Tryf.sizeOf9
  v9 := Tryf.zeroValue9
  t21 := Tryf.underlying21
  a21 := Tryf.isAgg21
  z21 := Tryf.sizeOf21
  v21 := Tryf.zeroValue21
  t46 := Tryf.underlying59
  a46 := Tryf.isAgg59
  z46 := Tryf.sizeOf59
  v46 := Tryf.zeroValue59
  t105 := Tryf.underlying50
  a105 := Tryf.isAgg50
  z105 := Tryf.sizeOf50
  v105 := Tryf.zeroValue50
  t119 := Tryf.underlying61
  a119 := Tryf.isAgg61
  z119 := Tryf.sizeOf61
  t138 := Tryf.underlying63
  a138 := Tryf.isAgg63
  z138 := Tryf.sizeOf63
  v138 := Tryf.zeroValue63
  t139 := Tryf.underlying64
  a139 := Tryf.isAgg64
  z139 := Tryf.sizeOf64
  v139 := Tryf.zeroValue64
  g3 := by kernel_rfl
  g4 := by kernel_rfl }
open Go.RowKit Go.Lib in
theorem Tryf.utf8_DecodeRuneInString (s : ByteArray) (w : World) (hT : Lib.Utf8Tabs 0 1 w) :
    Calls Tryf.prog 19 #[.string s] w fun e w' => e = .returned (.tuple #[.int .i32 (Lib.decodeGo s).1, .int .i64 (Lib.decodeGo s).2]) ∧ Below w.heap.size w w' := Any.utf8_DecodeRuneInString Tryf.lays197 s w hT
end Go.Proofs

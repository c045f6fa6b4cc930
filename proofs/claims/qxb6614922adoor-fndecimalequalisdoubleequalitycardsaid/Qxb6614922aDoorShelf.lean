/-
  The shelf's contracts at this dump, in plain words (lay-shelf, lay-plain).
-/
import Derived.Shelf.Strconv.Atoi
import Derived.Shelf.Strconv.Itoa0
import Derived.Shelf.Strconv.Itoa1
import Derived.Shelf.Strconv.Itoa2
import Derived.Shelf.Bits.Mul64
import Derived.Shelf.Bytes.SlEqualAll
import Derived.Shelf.Bytes.Small
import Derived.Shelf.Bytes.IndexByte
import Derived.Test.Qxb6614922aDoorRows
namespace Go.Proofs
open Go.Shelf
def Tryd.nmPow : String := (Qxb6614922aDoor.Rows.fnDecimalEqualIsDoubleEqualityRow.laid.map (fun x => x.1)).getD 3 default
def Tryd.lays172_ren : Go.Shelf.Ren := ⟨fun | 172 => 28 | 244 => 35 | 245 => 36 | 247 => 42 | 279 => 43 | 280 => 44 | 281 => 45 | 282 => 46 | 287 => 65 | 316 => 66 | 171 => 68 | 205 => 67 | 321 => 72 | 322 => 91 | 243 => 92 | 246 => 99 | 283 => 93 | 284 => 58 | 285 => 81 | 286 => 94 | 129 => 55 | 317 => 59 | 318 => 82 | 319 => 100 | 320 => 101 | 337 => 102 | 338 => 103 | n => n, fun | 9 => 9 | 3 => 3 | 75 => 40 | 76 => 41 | 4 => 4 | 5 => 5 | 167 => 76 | 37 => 23 | 0 => 0 | 85 => 77 | 2 => 2 | 168 => 79 | 53 => 84 | 175 => 104 | 46 => 106 | 210 => 109 | 127 => 131 | 145 => 134 | 143 => 132 | 21 => 21 | 171 => 97 | 173 => 135 | 212 => 125 | 51 => 85 | 20 => 20 | 213 => 149 | 232 => 91 | 233 => 153 | 80 => 156 | n => n, fun | 15 => 3 | 16 => 4 | 17 => 5 | 18 => 8 | 19 => 9 | n => n⟩
theorem Tryd.lays172 : Go.Proofs.Lays.n172 Tryd.prog Tryd.lays172_ren := {
  mixed := by kernel_rfl
  f129 := Tryd.func55.trans (congrArg some (by kernel_rfl))
  f171 := Tryd.func68.trans (congrArg some (by kernel_rfl))
  f172 := Tryd.func28.trans (congrArg some (by kernel_rfl))
  f205 := Tryd.func67.trans (congrArg some (by kernel_rfl))
  f243 := Tryd.func92.trans (congrArg some (by kernel_rfl))
  f244 := Tryd.func35.trans (congrArg some (by kernel_rfl))
  f245 := Tryd.func36.trans (congrArg some (by kernel_rfl))
  f246 := Tryd.func99.trans (congrArg some (by kernel_rfl))
  f247 := Tryd.func42.trans (congrArg some (by kernel_rfl))
  f279 := Tryd.func43.trans (congrArg some (by kernel_rfl))
  f280 := Tryd.func44.trans (congrArg some (by kernel_rfl))
  f281 := Tryd.func45.trans (congrArg some (by kernel_rfl))
  f282 := Tryd.func46.trans (congrArg some (by kernel_rfl))
  f283 := Tryd.func93.trans (congrArg some (by kernel_rfl))
  f284 := Tryd.func58.trans (congrArg some (by kernel_rfl))
  f285 := Tryd.func81.trans (congrArg some (by kernel_rfl))
  f286 := Tryd.func94.trans (congrArg some (by kernel_rfl))
  f287 := Tryd.func65.trans (congrArg some (by kernel_rfl))
  f316 := Tryd.func66.trans (congrArg some (by kernel_rfl))
  f317 := Tryd.func59.trans (congrArg some (by kernel_rfl))
  f318 := Tryd.func82.trans (congrArg some (by kernel_rfl))
  f319 := Tryd.func100.trans (congrArg some (by kernel_rfl))
  f320 := Tryd.func101.trans (congrArg some (by kernel_rfl))
  f321 := Tryd.func72.trans (congrArg some (by kernel_rfl))
  f322 := Tryd.func91.trans (congrArg some (by kernel_rfl))
  f337 := Tryd.func102.trans (congrArg some (by kernel_rfl))
  f338 := Tryd.func103.trans (congrArg some (by kernel_rfl))
  t0 := Tryd.underlying0
  a0 := Tryd.isAgg0
  z0 := Tryd.sizeOf0
  v0 := Tryd.zeroValue0
  t2 := Tryd.underlying2
  a2 := Tryd.isAgg2
  z2 := Tryd.sizeOf2
  v2 := Tryd.zeroValue2
  t3 := Tryd.underlying3
  a3 := Tryd.isAgg3
  z3 := Tryd.sizeOf3
  v3 := Tryd.zeroValue3
  t4 := Tryd.underlying4
  a4 := Tryd.isAgg4
  z4 := Tryd.sizeOf4
  v4 := Tryd.zeroValue4
  t5 := Tryd.underlying5
  a5 := Tryd.isAgg5
  z5 := Tryd.sizeOf5
  v5 := Tryd.zeroValue5
  t9 := Tryd.underlying9
  a9 := Tryd.isAgg9
  z9 := Tryd.sizeOf9
  v9 := Tryd.zeroValue9
  t20 := Tryd.underlying20
  a20 := Tryd.isAgg20
  z20 := Tryd.sizeOf20
  v20 := Tryd.zeroValue20
  t21 := Tryd.underlying21
  a21 := Tryd.isAgg21
  z21 := Tryd.sizeOf21
  v21 := Tryd.zeroValue21
  t37 := Tryd.underlying23
  a37 := Tryd.isAgg23
  z37 := Tryd.sizeOf23
  v37 := Tryd.zeroValue23
  t46 := Tryd.underlying106
  a46 := Tryd.isAgg106
  z46 := Tryd.sizeOf106
  v46 := Tryd.zeroValue106
  t51 := Tryd.underlying85
  a51 := Tryd.isAgg85
  z51 := Tryd.sizeOf85
  v51 := Tryd.zeroValue85
  t53 := Tryd.underlying84
  a53 := Tryd.isAgg84
  z53 := Tryd.sizeOf84
  v53 := Tryd.zeroValue84
  t75 := Tryd.underlying40
  a75 := Tryd.isAgg40
  z75 := Tryd.sizeOf40
  v75 := Tryd.zeroValue40
  t76 := Tryd.underlying41
  a76 := Tryd.isAgg41
  z76 := Tryd.sizeOf41
  v76 := Tryd.zeroValue41
  t85 := Tryd.underlying77
  a85 := Tryd.isAgg77
  z85 := Tryd.sizeOf77
  v85 := Tryd.zeroValue77
  t127 := Tryd.underlying131
  a127 := Tryd.isAgg131
  z127 := Tryd.sizeOf131
  v127 := Tryd.zeroValue131
  t143 := Tryd.underlying132
  a143 := Tryd.isAgg132
  z143 := Tryd.sizeOf132
  v143 := Tryd.zeroValue132
  t145 := Tryd.underlying134
  a145 := Tryd.isAgg134
  z145 := Tryd.sizeOf134
  v145 := Tryd.zeroValue134
  t167 := Tryd.underlying76
  a167 := Tryd.isAgg76
  z167 := Tryd.sizeOf76
  v167 := Tryd.zeroValue76
  t168 := Tryd.underlying79
  a168 := Tryd.isAgg79
  z168 := Tryd.sizeOf79
  v168 := Tryd.zeroValue79
  t171 := Tryd.underlying97
  a171 := Tryd.isAgg97
  z171 := Tryd.sizeOf97
  v171 := Tryd.zeroValue97
  t173 := Tryd.underlying135
  a173 := Tryd.isAgg135
  z173 := Tryd.sizeOf135
  v173 := Tryd.zeroValue135
  t175 := Tryd.underlying104
  a175 := Tryd.isAgg104
  z175 := Tryd.sizeOf104
  v175 := Tryd.zeroValue104
  t210 := Tryd.underlying109
  a210 := Tryd.isAgg109
  z210 := Tryd.sizeOf109
  v210 := Tryd.zeroValue109
  t212 := Tryd.underlying125
  a212 := Tryd.isAgg125
  z212 := Tryd.sizeOf125
  v212 := Tryd.zeroValue125
  t213 := Tryd.underlying149
  a213 := Tryd.isAgg149
  z213 := Tryd.sizeOf149
  t232 := Tryd.underlying91
  a232 := Tryd.isAgg91
  z232 := Tryd.sizeOf91
  v232 := Tryd.zeroValue91
  t233 := Tryd.underlying153
  a233 := Tryd.isAgg153
  z233 := Tryd.sizeOf153
  v233 := Tryd.zeroValue153
  g15 := by kernel_rfl
  g16 := by kernel_rfl
  g17 := by kernel_rfl
  g18 := by kernel_rfl
  g19 := by kernel_rfl }
open Go.RowKit in
theorem Tryd.strconv_Atoi (s : ByteArray) (n : Int) (hl : s.size ≤ 18) (h : Lib.atoi s.data.toList = some n) (w : World) :
    Calls Tryd.prog 28 #[.string s] w fun e w' => e = .returned (.tuple #[.int .i64 n, .nilIface]) ∧ ∃ t, w' = Lib.bytesWorld w 5 t := Any.strconv_Atoi Tryd.lays172 s n hl h w
def Tryd.lays129_ren : Go.Shelf.Ren := ⟨fun | 129 => 55 | n => n, fun | 53 => 84 | 3 => 3 | 4 => 4 | 46 => 106 | 5 => 5 | 9 => 9 | n => n, fun | n => n⟩
theorem Tryd.lays129 : Go.Proofs.Lays.n129 Tryd.prog Tryd.lays129_ren := {
  mixed := by kernel_rfl
  f129 := Tryd.func55.trans (congrArg some (by kernel_rfl))
  t3 := Tryd.underlying3
  a3 := Tryd.isAgg3
  z3 := Tryd.sizeOf3
  v3 := Tryd.zeroValue3
  t4 := Tryd.underlying4
  a4 := Tryd.isAgg4
  z4 := Tryd.sizeOf4
  v4 := Tryd.zeroValue4
  t5 := Tryd.underlying5
  a5 := Tryd.isAgg5
  z5 := Tryd.sizeOf5
  v5 := Tryd.zeroValue5
  t9 := Tryd.underlying9
  a9 := Tryd.isAgg9
  z9 := Tryd.sizeOf9
  v9 := Tryd.zeroValue9
  t46 := Tryd.underlying106
  a46 := Tryd.isAgg106
  z46 := Tryd.sizeOf106
  v46 := Tryd.zeroValue106
  t53 := Tryd.underlying84
  a53 := Tryd.isAgg84
  z53 := Tryd.sizeOf84
  v53 := Tryd.zeroValue84 }
theorem Tryd.bits_Len64 (x : Int) (w : World) (h0 : 0 ≤ x) (h1 : x ≤ 18446744073709551615) :
    Calls Tryd.prog 55 #[.int .u64 x] w fun e w' => e = .returned (.int .i64 (Lib.bitLen x.toNat)) ∧ w' = w := Any.bits_Len64 Tryd.lays129 x w h0 h1
def Tryd.laysM284_ren : Go.Shelf.Ren := ⟨fun | 284 => 58 | 129 => 55 | 317 => 59 | 318 => 82 | n => n, fun | 53 => 84 | 3 => 3 | 212 => 125 | 0 => 0 | 4 => 4 | 46 => 106 | 5 => 5 | 9 => 9 | n => n, fun | 17 => 5 | n => n⟩
theorem Tryd.laysM284 : Go.Proofs.LaysM.n284 Tryd.prog Tryd.laysM284_ren := {
  mixed := by kernel_rfl
  f129 := Tryd.func55.trans (congrArg some (by kernel_rfl))
  f284 := Tryd.func58.trans (congrArg some (by kernel_rfl))
  f317 := Tryd.func59.trans (congrArg some (by kernel_rfl))
  f318 := Tryd.func82.trans (congrArg some (by kernel_rfl))
  t0 := Tryd.underlying0
  a0 := Tryd.isAgg0
  z0 := Tryd.sizeOf0
  v0 := Tryd.zeroValue0
  t3 := Tryd.underlying3
  a3 := Tryd.isAgg3
  z3 := Tryd.sizeOf3
  v3 := Tryd.zeroValue3
  t4 := Tryd.underlying4
  a4 := Tryd.isAgg4
  z4 := Tryd.sizeOf4
  v4 := Tryd.zeroValue4
  t5 := Tryd.underlying5
  a5 := Tryd.isAgg5
  z5 := Tryd.sizeOf5
  v5 := Tryd.zeroValue5
  t9 := Tryd.underlying9
  a9 := Tryd.isAgg9
  z9 := Tryd.sizeOf9
  v9 := Tryd.zeroValue9
  t46 := Tryd.underlying106
  a46 := Tryd.isAgg106
  z46 := Tryd.sizeOf106
  v46 := Tryd.zeroValue106
  t53 := Tryd.underlying84
  a53 := Tryd.isAgg84
  z53 := Tryd.sizeOf84
  v53 := Tryd.zeroValue84
  t212 := Tryd.underlying125
  a212 := Tryd.isAgg125
  z212 := Tryd.sizeOf125
  v212 := Tryd.zeroValue125
  g17 := by kernel_rfl
  i0 := by kernel_rfl
  i3 := by kernel_rfl
  i4 := by kernel_rfl
  i5 := by kernel_rfl
  i9 := by kernel_rfl
  i46 := by kernel_rfl
  i53 := by kernel_rfl
  i212 := by kernel_rfl
  m17 := by kernel_rfl }
open Go.Lib in
theorem Tryd.internal_strconv_numDigits (u : Nat) (h1 : 1 ≤ u) (h2 : u < 18446744073709551616) (w : World) (htab : Lib.TabIs Tryd.prog w Tryd.nmPow .u64 Lib.pow10Tab) :
    Calls Tryd.prog 58 #[.int .u64 u] w fun e w' => e = .returned (.int .i64 (Lib.nDigits u)) ∧ w' = w := Any.internal_strconv_numDigits Tryd.laysM284 u h1 h2 w htab
def Tryd.lays285_ren : Go.Shelf.Ren := ⟨fun | 285 => 81 | n => n, fun | 37 => 23 | 53 => 84 | 3 => 3 | 4 => 4 | 51 => 85 | 9 => 9 | 5 => 5 | 0 => 0 | n => n, fun | n => n⟩
theorem Tryd.lays285 : Go.Proofs.Lays.n285 Tryd.prog Tryd.lays285_ren := {
  mixed := by kernel_rfl
  f285 := Tryd.func81.trans (congrArg some (by kernel_rfl))
  t0 := Tryd.underlying0
  a0 := Tryd.isAgg0
  z0 := Tryd.sizeOf0
  v0 := Tryd.zeroValue0
  t3 := Tryd.underlying3
  a3 := Tryd.isAgg3
  z3 := Tryd.sizeOf3
  v3 := Tryd.zeroValue3
  t4 := Tryd.underlying4
  a4 := Tryd.isAgg4
  z4 := Tryd.sizeOf4
  v4 := Tryd.zeroValue4
  t5 := Tryd.underlying5
  a5 := Tryd.isAgg5
  z5 := Tryd.sizeOf5
  v5 := Tryd.zeroValue5
  t9 := Tryd.underlying9
  a9 := Tryd.isAgg9
  z9 := Tryd.sizeOf9
  v9 := Tryd.zeroValue9
  t37 := Tryd.underlying23
  a37 := Tryd.isAgg23
  z37 := Tryd.sizeOf23
  v37 := Tryd.zeroValue23
  t51 := Tryd.underlying85
  a51 := Tryd.isAgg85
  z51 := Tryd.sizeOf85
  v51 := Tryd.zeroValue85
  t53 := Tryd.underlying84
  a53 := Tryd.isAgg84
  z53 := Tryd.sizeOf84
  v53 := Tryd.zeroValue84 }
open Go.RowKit Go.Sort Go.Lib in
theorem Tryd.internal_strconv_formatBase10 (blk off cap : Nat) (u : Nat) (d : Array UInt8) (w : World) (hH : Holds (fun (b : UInt8) => Value.int .u8 (b.toNat : Int)) w blk off d) (hu : u < 10 ^ d.size) (hu64 : u < 18446744073709551616) (hsz : d.size < 4611686018427387904) :
    Calls Tryd.prog 81 #[.slice (some ⟨blk, off, none⟩) d.size cap, .int .u64 u] w fun e w' =>
      e = .returned (.tuple #[]) ∧ ∃ (n v' : Nat) (dk : Array UInt8), w' = (putRow (fun (b : UInt8) => Value.int .u8 (b.toNat : Int)) w blk off dk).drewN n ∧ FmtInv d.size u 0 v' dk := Any.internal_strconv_formatBase10 Tryd.lays285 blk off cap u d w hH hu hu64 hsz
def Tryd.lays264_ren : Go.Shelf.Ren := ⟨fun | 264 => 95 | n => n, fun | 53 => 84 | 46 => 106 | n => n, fun | n => n⟩
theorem Tryd.lays264 : Go.Proofs.Lays.n264 Tryd.prog Tryd.lays264_ren := {
  mixed := by kernel_rfl
  f264 := Tryd.func95.trans (congrArg some (by kernel_rfl))
  t46 := Tryd.underlying106
  a46 := Tryd.isAgg106
  z46 := Tryd.sizeOf106
  v46 := Tryd.zeroValue106
  t53 := Tryd.underlying84
  a53 := Tryd.isAgg84
  z53 := Tryd.sizeOf84
  v53 := Tryd.zeroValue84 }
open Go.RowKit Go.Lib in
theorem Tryd.bits_Mul64 (x y : Nat) (hx : x < 18446744073709551616) (hy : y < 18446744073709551616) (w : World) :
    Calls Tryd.prog 95 #[.int .u64 x, .int .u64 y] w fun e w' => e = .returned (.tuple #[.int .u64 ((x * y / 18446744073709551616 : Nat) : Int), .int .u64 ((x * y % 18446744073709551616 : Nat) : Int)]) ∧ w' = w := Any.bits_Mul64 Tryd.lays264 x y hx hy w
def Tryd.lays187_ren : Go.Shelf.Ren := ⟨fun | 187 => 27 | 255 => 34 | n => n, fun | 37 => 23 | 5 => 5 | 3 => 3 | n => n, fun | n => n⟩
theorem Tryd.lays187 : Go.Proofs.Lays.n187 Tryd.prog Tryd.lays187_ren := {
  mixed := by kernel_rfl
  f187 := Tryd.func27.trans (congrArg some (by kernel_rfl))
  f255 := Tryd.func34.trans (congrArg some (by kernel_rfl))
  t3 := Tryd.underlying3
  a3 := Tryd.isAgg3
  z3 := Tryd.sizeOf3
  v3 := Tryd.zeroValue3
  t5 := Tryd.underlying5
  a5 := Tryd.isAgg5
  z5 := Tryd.sizeOf5
  v5 := Tryd.zeroValue5
  t37 := Tryd.underlying23
  a37 := Tryd.isAgg23
  z37 := Tryd.sizeOf23
  v37 := Tryd.zeroValue23 }
def Tryd.lays115_ren : Go.Shelf.Ren := ⟨fun | 115 => 29 | n => n, fun | 37 => 23 | 4 => 4 | 9 => 9 | 5 => 5 | n => n, fun | n => n⟩
theorem Tryd.lays115 : Go.Proofs.Lays.n115 Tryd.prog Tryd.lays115_ren := {
  mixed := by kernel_rfl
  f115 := Tryd.func29.trans (congrArg some (by kernel_rfl))
  t4 := Tryd.underlying4
  a4 := Tryd.isAgg4
  z4 := Tryd.sizeOf4
  v4 := Tryd.zeroValue4
  t9 := Tryd.underlying9
  a9 := Tryd.isAgg9
  z9 := Tryd.sizeOf9
  v9 := Tryd.zeroValue9
  t37 := Tryd.underlying23
  a37 := Tryd.isAgg23
  z37 := Tryd.sizeOf23
  v37 := Tryd.zeroValue23 }
def Tryd.laysnb115_ren : Go.Shelf.Ren := ⟨fun | 115 => 29 | n => n, fun | 37 => 23 | 4 => 4 | 9 => 9 | 5 => 5 | n => n, fun | n => n⟩
theorem Tryd.laysnb115 : Go.Proofs.Lays.nb115 Tryd.prog Tryd.laysnb115_ren := {
  mixed := by kernel_rfl
  f115 := Tryd.func29.trans (congrArg some (by kernel_rfl))
  t4 := Tryd.underlying4
  a4 := Tryd.isAgg4
  z4 := Tryd.sizeOf4
  v4 := Tryd.zeroValue4
  t9 := Tryd.underlying9
  a9 := Tryd.isAgg9
  z9 := Tryd.sizeOf9
  v9 := Tryd.zeroValue9
  t37 := Tryd.underlying23
  a37 := Tryd.isAgg23
  z37 := Tryd.sizeOf23
  v37 := Tryd.zeroValue23
  t5 := Tryd.underlying5
  a5 := Tryd.isAgg5
  z5 := Tryd.sizeOf5
  v5 := Tryd.zeroValue5 }
theorem Tryd.bytes_Equal_all (p1 p2 : Option Addr) (n c m d : Nat) (xs ys : List Int) (w : World) (hx : xs.length = n) (hy : ys.length = m) (h1 : Lib.BytesIn w p1 n xs) (h2 : Lib.BytesIn w p2 m ys) :
    Calls Tryd.prog 29 #[.slice p1 n c, .slice p2 m d] w fun e w' => e = .returned (.bool (Lib.bytesOf xs == Lib.bytesOf ys)) ∧ w' = w := Any.bytes_Equal_all Tryd.laysnb115 p1 p2 n c m d xs ys w hx hy h1 h2
theorem Tryd.bytes_Equal (v1 v2 : Value) (xs ys : List Int) (w : World) (h1 : (convert 23 9 v1).run Tryd.prog w = .ok (.string (strOfNums xs)) w) (h2 : (convert 23 9 v2).run Tryd.prog w = .ok (.string (strOfNums ys)) w) :
    Calls Tryd.prog 29 #[v1, v2] w fun e w' => e = .returned (.bool (Lib.bytesOf xs == Lib.bytesOf ys)) ∧ w' = w := Any.bytes_Equal Tryd.lays115 v1 v2 xs ys w h1 h2
theorem Tryd.bytes_IndexByte (b o n c : Nat) (xs : List Int) (cv : Int) (w : World) (hx : xs.length = n) (hc : ∀ i, i < n → w.cell? ⟨b, o + i, none⟩ = some (.int .u8 (xs.getD i 0))) :
    Calls Tryd.prog 27 #[.slice (some ⟨b, o, none⟩) n c, .int .u8 cv] w fun e w' => e = .returned (.int .i64 (Lib.indexByte (Lib.bytesOf xs) cv.toNat.toUInt8)) ∧ w' = w := Any.bytes_IndexByte Tryd.lays187 b o n c xs cv w hx hc
end Go.Proofs

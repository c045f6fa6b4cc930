/-
  THE CLOSED FACTS OVER fmt's STOPPED FRONT at this dump (after the guide's NameFmt texts), and what each text is: told by the authors' own function.
-/
import Derived.Test.Qxb6616416aFmtProg
import Derived.Stop.CallBack
import Derived.Stop.IfaceNil
import Derived.Stop.FmtTextLaws
import Derived.Stop.FmtTextKit
import Derived.Stop.FmtTextVerbs
import Derived.Stop.FmtRuneSmall
import Derived.Stop.Told
import Derived.Stop.Texts
import GoSem.ClaimData
import Derived.WalkKit
namespace Go.Proofs.Qxb6616416aFmt
open Go.Extern.Stop Go.Stop Go.Extern Go.Kit
set_option maxRecDepth 100000

theorem call13 (args : Array Value) (w : World) : (callFunc 13 args).run Tryf.prog w = ((FmtStop.sprintf #[9, 84] #[9] args).run Tryf.prog w).andThen fun v w' => .ok (.value v) w' :=
  run_callFunc_extern Tryf.func13 (by kernel_rfl) (by kernel_rfl) (by kernel_rfl) (by kernel_rfl) args w
theorem fmtGuard (name : String) (w : World) : (FmtStop.guard name).run Tryf.prog w = .ok () w := by kernel_rfl

theorem empty_p : FmtStop.printed? ⟨#[115, 101, 103, 109, 101, 110, 116, 32, 37, 100, 32, 105, 115, 32, 101, 109, 112, 116, 121, 59, 32, 111, 110, 108, 121, 32, 116, 104, 101, 32, 108, 97, 115, 116, 32, 115, 101, 103, 109, 101, 110, 116, 32, 109, 97, 121, 32, 98, 101]⟩ 1 = some [(0, 100, false)] := by kernel_rfl
theorem empty_r (w : World) : (FmtDoors.printed ⟨#[115, 101, 103, 109, 101, 110, 116, 32, 37, 100, 32, 105, 115, 32, 101, 109, 112, 116, 121, 59, 32, 111, 110, 108, 121, 32, 116, 104, 101, 32, 108, 97, 115, 116, 32, 115, 101, 103, 109, 101, 110, 116, 32, 109, 97, 121, 32, 98, 101]⟩ 1).run Tryf.prog w = .ok [(0, 100, false)] w := by kernel_rfl
theorem empty_t : (FmtText.parse [115, 101, 103, 109, 101, 110, 116, 32, 37, 100, 32, 105, 115, 32, 101, 109, 112, 116, 121, 59, 32, 111, 110, 108, 121, 32, 116, 104, 101, 32, 108, 97, 115, 116, 32, 115, 101, 103, 109, 101, 110, 116, 32, 109, 97, 121, 32, 98, 101]).map FmtText.glue = some [.lit [115, 101, 103, 109, 101, 110, 116, 32], .verb {} 100, .lit [32, 105, 115, 32, 101, 109, 112, 116, 121, 59, 32, 111, 110, 108, 121, 32, 116, 104, 101, 32, 108, 97, 115, 116, 32, 115, 101, 103, 109, 101, 110, 116, 32, 109, 97, 121, 32, 98, 101]] := by rfl
theorem seg_p : FmtStop.printed? ⟨#[115, 101, 103, 109, 101, 110, 116, 32, 37, 113, 58, 32, 37, 115]⟩ 2 = some [(0, 113, false), (1, 115, false)] := by kernel_rfl
theorem seg_r (w : World) : (FmtDoors.printed ⟨#[115, 101, 103, 109, 101, 110, 116, 32, 37, 113, 58, 32, 37, 115]⟩ 2).run Tryf.prog w = .ok [(0, 113, false), (1, 115, false)] w := by kernel_rfl
theorem seg_t : (FmtText.parse [115, 101, 103, 109, 101, 110, 116, 32, 37, 113, 58, 32, 37, 115]).map FmtText.glue = some [.lit [115, 101, 103, 109, 101, 110, 116, 32], .verb {} 113, .lit [58, 32], .verb {} 115] := by rfl
theorem stands_p : FmtStop.printed? ⟨#[37, 113, 32, 115, 116, 97, 110, 100, 115, 32, 111, 110, 108, 121, 32, 105, 110, 32, 97, 32, 119, 104, 111, 108, 101, 32, 115, 101, 103, 109, 101, 110, 116, 32, 123, 42, 125, 32, 111, 114, 32, 123, 42, 42, 125, 44, 32, 111, 114, 32, 105, 110, 32, 116, 104, 101, 32, 119, 104, 111, 108, 101, 32, 112, 97, 116, 116, 101, 114, 110, 32, 34, 47, 42, 34]⟩ 1 = some [(0, 113, false)] := by kernel_rfl
theorem stands_r (w : World) : (FmtDoors.printed ⟨#[37, 113, 32, 115, 116, 97, 110, 100, 115, 32, 111, 110, 108, 121, 32, 105, 110, 32, 97, 32, 119, 104, 111, 108, 101, 32, 115, 101, 103, 109, 101, 110, 116, 32, 123, 42, 125, 32, 111, 114, 32, 123, 42, 42, 125, 44, 32, 111, 114, 32, 105, 110, 32, 116, 104, 101, 32, 119, 104, 111, 108, 101, 32, 112, 97, 116, 116, 101, 114, 110, 32, 34, 47, 42, 34]⟩ 1).run Tryf.prog w = .ok [(0, 113, false)] w := by kernel_rfl
theorem stands_t : (FmtText.parse [37, 113, 32, 115, 116, 97, 110, 100, 115, 32, 111, 110, 108, 121, 32, 105, 110, 32, 97, 32, 119, 104, 111, 108, 101, 32, 115, 101, 103, 109, 101, 110, 116, 32, 123, 42, 125, 32, 111, 114, 32, 123, 42, 42, 125, 44, 32, 111, 114, 32, 105, 110, 32, 116, 104, 101, 32, 119, 104, 111, 108, 101, 32, 112, 97, 116, 116, 101, 114, 110, 32, 34, 47, 42, 34]).map FmtText.glue = some [.verb {} 113, .lit [32, 115, 116, 97, 110, 100, 115, 32, 111, 110, 108, 121, 32, 105, 110, 32, 97, 32, 119, 104, 111, 108, 101, 32, 115, 101, 103, 109, 101, 110, 116, 32, 123, 42, 125, 32, 111, 114, 32, 123, 42, 42, 125, 44, 32, 111, 114, 32, 105, 110, 32, 116, 104, 101, 32, 119, 104, 111, 108, 101, 32, 112, 97, 116, 116, 101, 114, 110, 32, 34, 47, 42, 34]] := by rfl
theorem allow_p : FmtStop.printed? ⟨#[37, 113, 32, 105, 115, 32, 110, 111, 116, 32, 97, 108, 108, 111, 119, 101, 100, 32, 105, 110, 32, 97, 32, 112, 97, 116, 104, 32, 115, 101, 103, 109, 101, 110, 116]⟩ 1 = some [(0, 113, false)] := by kernel_rfl
theorem allow_r (w : World) : (FmtDoors.printed ⟨#[37, 113, 32, 105, 115, 32, 110, 111, 116, 32, 97, 108, 108, 111, 119, 101, 100, 32, 105, 110, 32, 97, 32, 112, 97, 116, 104, 32, 115, 101, 103, 109, 101, 110, 116]⟩ 1).run Tryf.prog w = .ok [(0, 113, false)] w := by kernel_rfl
theorem allow_t : (FmtText.parse [37, 113, 32, 105, 115, 32, 110, 111, 116, 32, 97, 108, 108, 111, 119, 101, 100, 32, 105, 110, 32, 97, 32, 112, 97, 116, 104, 32, 115, 101, 103, 109, 101, 110, 116]).map FmtText.glue = some [.verb {} 113, .lit [32, 105, 115, 32, 110, 111, 116, 32, 97, 108, 108, 111, 119, 101, 100, 32, 105, 110, 32, 97, 32, 112, 97, 116, 104, 32, 115, 101, 103, 109, 101, 110, 116]] := by rfl
theorem norm_p : FmtStop.printed? ⟨#[97, 32, 110, 111, 114, 109, 97, 108, 105, 115, 101, 100, 32, 114, 101, 113, 117, 101, 115, 116, 32, 112, 97, 116, 104, 32, 104, 111, 108, 100, 115, 32, 105, 116, 32, 97, 115, 32, 37, 113]⟩ 1 = some [(0, 113, false)] := by kernel_rfl
theorem norm_r (w : World) : (FmtDoors.printed ⟨#[97, 32, 110, 111, 114, 109, 97, 108, 105, 115, 101, 100, 32, 114, 101, 113, 117, 101, 115, 116, 32, 112, 97, 116, 104, 32, 104, 111, 108, 100, 115, 32, 105, 116, 32, 97, 115, 32, 37, 113]⟩ 1).run Tryf.prog w = .ok [(0, 113, false)] w := by kernel_rfl
theorem norm_t : (FmtText.parse [97, 32, 110, 111, 114, 109, 97, 108, 105, 115, 101, 100, 32, 114, 101, 113, 117, 101, 115, 116, 32, 112, 97, 116, 104, 32, 104, 111, 108, 100, 115, 32, 105, 116, 32, 97, 115, 32, 37, 113]).map FmtText.glue = some [.lit [97, 32, 110, 111, 114, 109, 97, 108, 105, 115, 101, 100, 32, 114, 101, 113, 117, 101, 115, 116, 32, 112, 97, 116, 104, 32, 104, 111, 108, 100, 115, 32, 105, 116, 32, 97, 115, 32], .verb {} 113] := by rfl

def shape3 : List UInt8 := [5, 3, 0, 0, 0, 0, 0, 0, 0, 105, 110, 116]
def shape5 : List UInt8 := [6, 5, 0, 0, 0, 0, 0, 0, 0, 117, 105, 110, 116, 56]
def shape9 : List UInt8 := [12, 6, 0, 0, 0, 0, 0, 0, 0, 115, 116, 114, 105, 110, 103]
def shape21 : List UInt8 := [4, 5, 0, 0, 0, 0, 0, 0, 0, 105, 110, 116, 51, 50]
theorem op3_100 (name : String) (x : Int) (w : World) : (FmtStop.operand name false 100 false (.iface 3 (.int .i64 x))).run Tryf.prog w = .ok (shape3, Go.Extern.Stop.digits 8 (x % 2 ^ 64).toNat) w := by kernel_rfl
theorem op5_113 (name : String) (x : Int) (w : World) : (FmtStop.operand name false 113 false (.iface 5 (.int .u8 x))).run Tryf.prog w = .ok (shape5, Go.Extern.Stop.digits 8 (x % 2 ^ 64).toNat) w := by kernel_rfl
theorem op21_113 (name : String) (x : Int) (w : World) : (FmtStop.operand name false 113 false (.iface 21 (.int .i32 x))).run Tryf.prog w = .ok (shape21, Go.Extern.Stop.digits 8 (x % 2 ^ 64).toNat) w := by kernel_rfl
theorem op9_113 (name : String) (x : ByteArray) (w : World) : (FmtStop.operand name false 113 false (.iface 9 (.string x))).run Tryf.prog w = .ok (shape9, FmtStop.pack x.data.toList) w := by kernel_rfl
theorem op9_115 (name : String) (x : ByteArray) (w : World) : (FmtStop.operand name false 115 false (.iface 9 (.string x))).run Tryf.prog w = .ok (shape9, FmtStop.pack x.data.toList) w := by kernel_rfl

/-- what fmt is asked at each of the five calls -/
def emptyQ (x : Int) : List (List UInt8) := [[115, 101, 103, 109, 101, 110, 116, 32, 37, 100, 32, 105, 115, 32, 101, 109, 112, 116, 121, 59, 32, 111, 110, 108, 121, 32, 116, 104, 101, 32, 108, 97, 115, 116, 32, 115, 101, 103, 109, 101, 110, 116, 32, 109, 97, 121, 32, 98, 101], shape3, digits 8 (x % 18446744073709551616).toNat]
def segQ (p r : List UInt8) : List (List UInt8) := [[115, 101, 103, 109, 101, 110, 116, 32, 37, 113, 58, 32, 37, 115], shape9, FmtStop.pack p, shape9, FmtStop.pack r]
def standsQ (x : Int) : List (List UInt8) := [[37, 113, 32, 115, 116, 97, 110, 100, 115, 32, 111, 110, 108, 121, 32, 105, 110, 32, 97, 32, 119, 104, 111, 108, 101, 32, 115, 101, 103, 109, 101, 110, 116, 32, 123, 42, 125, 32, 111, 114, 32, 123, 42, 42, 125, 44, 32, 111, 114, 32, 105, 110, 32, 116, 104, 101, 32, 119, 104, 111, 108, 101, 32, 112, 97, 116, 116, 101, 114, 110, 32, 34, 47, 42, 34], shape5, digits 8 (x % 18446744073709551616).toNat]
def allowQ (x : Int) : List (List UInt8) := [[37, 113, 32, 105, 115, 32, 110, 111, 116, 32, 97, 108, 108, 111, 119, 101, 100, 32, 105, 110, 32, 97, 32, 112, 97, 116, 104, 32, 115, 101, 103, 109, 101, 110, 116], shape21, digits 8 (x % 18446744073709551616).toNat]
def normQ (p : List UInt8) : List (List UInt8) := [[97, 32, 110, 111, 114, 109, 97, 108, 105, 115, 101, 100, 32, 114, 101, 113, 117, 101, 115, 116, 32, 112, 97, 116, 104, 32, 104, 111, 108, 100, 115, 32, 105, 116, 32, 97, 115, 32, 37, 113], shape9, FmtStop.pack p]

/-- a told text: not empty, and not long -/
def Told (F : Interp) (q : List (List UInt8)) (n : Nat) : Prop := (FmtStop.textOf (F.told "fmt.Sprintf" q 0)).size ≠ 0 ∧ (FmtStop.textOf (F.told "fmt.Sprintf" q 0)).size ≤ n
theorem told_of (F : Interp) {q : List (List UInt8)} {t : List UInt8} {n : Nat} (h : FmtText.text "fmt.Sprintf" q = some t) (h0 : t.length ≠ 0) (hn : t.length ≤ n) (hb : n < 2 ^ 63) : Told F q n := by
  have ht := told_string F h (by omega)
  have hl : (FmtStop.textOf (F.told "fmt.Sprintf" q 0)).data.toList = t := by rw [textOf_list, ht]
  have hs : (FmtStop.textOf (F.told "fmt.Sprintf" q 0)).size = t.length := by rw [← hl]; simp
  exact ⟨by rw [hs]; exact h0, by rw [hs]; exact hn⟩

theorem empty_told (F : Interp) (x : Int) (hw : (Lit.int .i64 x).wf = true) : Told F (emptyQ x) 100 := by
  have hi := FmtText.operand_int_at (sh := shape3) (k := .i64) rfl rfl x hw
  have hl := FmtText.itoa_length_le hw
  have ht : FmtText.text "fmt.Sprintf" (emptyQ x) = some ([115, 101, 103, 109, 101, 110, 116, 32] ++ (Lib.itoa x ++ [32, 105, 115, 32, 101, 109, 112, 116, 121, 59, 32, 111, 110, 108, 121, 32, 116, 104, 101, 32, 108, 97, 115, 116, 32, 115, 101, 103, 109, 101, 110, 116, 32, 109, 97, 121, 32, 98, 101])) := by
    rw [emptyQ, FmtText.text_sprintf_glued empty_t (FmtText.operands_cons hi FmtText.operands_nil)]
    simp [FmtText.render, FmtText.printArg_d _ _ hw]
  exact told_of F ht (by simp) (by simp; omega) (by decide)

theorem seg_told (F : Interp) (p r : List UInt8) (hp : p.length ≤ 1048576) (hr : r.length ≤ 33554432) : Told F (segQ p r) 67108864 := by
  have hi := FmtText.operand_str_at (sh := shape9) rfl rfl p (by omega)
  have hj := FmtText.operand_str_at (sh := shape9) rfl rfl r (by omega)
  have hl := FmtText.quote_length_le p
  have ht : FmtText.text "fmt.Sprintf" (segQ p r) = some ([115, 101, 103, 109, 101, 110, 116, 32] ++ (FmtText.quote false p ++ ([58, 32] ++ r))) := by
    rw [segQ, FmtText.text_sprintf_glued seg_t (FmtText.operands_cons hi (FmtText.operands_cons hj FmtText.operands_nil))]
    simp [FmtText.render, FmtText.printArg_q_str, FmtText.printArg_s_str]
  exact told_of F ht (by simp) (by simp; omega) (by decide)

theorem norm_told (F : Interp) (p : List UInt8) (hp : p.length ≤ 3145728) : Told F (normQ p) 33554432 := by
  have hi := FmtText.operand_str_at (sh := shape9) rfl rfl p (by omega)
  have hl := FmtText.quote_length_le p
  have ht : FmtText.text "fmt.Sprintf" (normQ p) = some ([97, 32, 110, 111, 114, 109, 97, 108, 105, 115, 101, 100, 32, 114, 101, 113, 117, 101, 115, 116, 32, 112, 97, 116, 104, 32, 104, 111, 108, 100, 115, 32, 105, 116, 32, 97, 115, 32] ++ FmtText.quote false p) := by
    rw [normQ, FmtText.text_sprintf_glued norm_t (FmtText.operands_cons hi FmtText.operands_nil)]
    simp [FmtText.render, FmtText.printArg_q_str]
  exact told_of F ht (by simp) (by simp; omega) (by decide)

theorem stands_told (F : Interp) (x : Int) (h0 : 0 ≤ x) (h1 : x ≤ 255) : Told F (standsQ x) 200 := by
  have hw : (Lit.int .u8 x).wf = true := WalkArith.wf_u8 (by omega)
  have hi := FmtText.operand_int_at (sh := shape5) (k := .u8) rfl rfl x hw
  have hu : (x % 18446744073709551616).toNat ≤ 1114111 := by omega
  have hl := quoteRune_len (x % 18446744073709551616).toNat
  have ht : FmtText.text "fmt.Sprintf" (standsQ x) = some (FmtText.quoteRune false (x % 18446744073709551616).toNat ++ [32, 115, 116, 97, 110, 100, 115, 32, 111, 110, 108, 121, 32, 105, 110, 32, 97, 32, 119, 104, 111, 108, 101, 32, 115, 101, 103, 109, 101, 110, 116, 32, 123, 42, 125, 32, 111, 114, 32, 123, 42, 42, 125, 44, 32, 111, 114, 32, 105, 110, 32, 116, 104, 101, 32, 119, 104, 111, 108, 101, 32, 112, 97, 116, 116, 101, 114, 110, 32, 34, 47, 42, 34]) := by
    rw [standsQ, FmtText.text_sprintf_glued stands_t (FmtText.operands_cons hi FmtText.operands_nil)]
    simp [FmtText.render, FmtText.printArg_q_int _ _ _ _ hu]
  exact told_of F ht (by simp) (by simp; omega) (by decide)

theorem allow_told (F : Interp) (x : Int) (h0 : 0 ≤ x) (h1 : x ≤ 1114111) : Told F (allowQ x) 200 := by
  have hw : (Lit.int .i32 x).wf = true := WalkArith.wf_i32 (by omega)
  have hi := FmtText.operand_int_at (sh := shape21) (k := .i32) rfl rfl x hw
  have hu : (x % 18446744073709551616).toNat ≤ 1114111 := by omega
  have hl := quoteRune_len (x % 18446744073709551616).toNat
  have ht : FmtText.text "fmt.Sprintf" (allowQ x) = some (FmtText.quoteRune false (x % 18446744073709551616).toNat ++ [32, 105, 115, 32, 110, 111, 116, 32, 97, 108, 108, 111, 119, 101, 100, 32, 105, 110, 32, 97, 32, 112, 97, 116, 104, 32, 115, 101, 103, 109, 101, 110, 116]) := by
    rw [allowQ, FmtText.text_sprintf_glued allow_t (FmtText.operands_cons hi FmtText.operands_nil)]
    simp [FmtText.render, FmtText.printArg_q_int _ _ _ _ hu]
  exact told_of F ht (by simp) (by simp; omega) (by decide)

end Go.Proofs.Qxb6616416aFmt

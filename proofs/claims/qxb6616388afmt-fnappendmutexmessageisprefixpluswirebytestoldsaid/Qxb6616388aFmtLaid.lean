/-
  THE START THAT IS SHOWN TO BE THERE: a world in which the seven listed variables hold what the rows list.
-/
import Derived.Test.Qxb6616388aFmtRows
import Derived.Lib.LaidIn
import Derived.Great.LaidInts
import Derived.ProofKit
namespace Go.Proofs.Qxb6616388aFmt
open Go.Great Go.RowKit
set_option maxRecDepth 1000000

/-- a table's cells, out of its datum -/
def litCells {H : Type} : DataW H → List Value
  | .lit (.int k n) => [.int k n]
  | .agg l => l.flatMap fun | .lit (.int k n) => [.int k n] | .agg l' => l'.flatMap (fun | .lit (.int k n) => [.int k n] | _ => []) | _ => []
  | _ => []
def intsOf {H : Type} : DataW H → List Int
  | .slice l _ => l.map fun | .lit (.int _ n) => n | _ => 0
  | _ => []

def laidWorld (P : Program) (os : Os) : World :=
  let N := (World.settled P os).heap.size
  let a2 := intsOf Rows.laid_strconv_isPrint16
  let a3 := intsOf Rows.laid_strconv_isNotPrint16
  let a4 := intsOf Rows.laid_strconv_isPrint32
  let a5 := intsOf Rows.laid_strconv_isNotPrint32
  let a6 := intsOf Rows.laid_strconv_isGraphic
  let w0 := World.holding P os ⟨#[.cells (a2.map (Value.int .u16)).toArray 67, .cells (a3.map (Value.int .u16)).toArray 67, .cells (a4.map (Value.int .u32)).toArray 71, .cells (a5.map (Value.int .u16)).toArray 67, .cells (a6.map (Value.int .u16)).toArray 67], #[], []⟩
  let put (h : Array Obj) (g : Nat) (cs : Array Value) : Array Obj := h.modify g fun
    | .cells _ t frozen => .cells cs t frozen
    | o => o
  let h1 := put (put w0.heap 0 (litCells Rows.laid_unicode_utf8_first).toArray) 1 (litCells (Rows.laid_unicode_utf8_acceptRanges : DataW Unit)).toArray
  let h2 := put h1 2 #[.slice (some ⟨N, 0, none⟩) a2.length a2.length]
  let h3 := put h2 3 #[.slice (some ⟨N + 1, 0, none⟩) a3.length a3.length]
  let h4 := put h3 4 #[.slice (some ⟨N + 2, 0, none⟩) a4.length a4.length]
  let h5 := put h4 5 #[.slice (some ⟨N + 3, 0, none⟩) a5.length a5.length]
  let h6 := put h5 6 #[.slice (some ⟨N + 4, 0, none⟩) a6.length a6.length]
  { w0 with heap := h6 }

def N0 (P : Program) : Nat := (World.settled P default).heap.size
abbrev laidL : List (String × DataW Unit) := Rows.fnAppendMutexMessageTellsMessagesApartRow.laid
abbrev atCall (P : Program) (os : Os) (args : Array Value) : World := ((laidWorld P os).forCall (fun _ _ => 0) ⟨#[], args, []⟩).memory

theorem pieceA (os : Os) (args : Array Value) : LaidIn Tryf.prog (atCall Tryf.prog os args) (laidL.take 1) [1] := LaidIn.of_run [1] 10 (by kernel_rfl) (by kernel_rfl) (by kernel_rfl) (by kernel_rfl)
theorem pieceF (os : Os) (args : Array Value) : LaidIn Tryf.prog (atCall Tryf.prog os args) (laidL.drop 6) [0] := LaidIn.of_run [0] 10 (by kernel_rfl) (by kernel_rfl) (by kernel_rfl) (by kernel_rfl)

theorem eq2 : Rows.laid_strconv_isPrint16 = .slice ((intsOf Rows.laid_strconv_isPrint16).map fun n => .lit (.int .u16 n)) [] := by kernel_rfl
theorem eq3 : Rows.laid_strconv_isNotPrint16 = .slice ((intsOf Rows.laid_strconv_isNotPrint16).map fun n => .lit (.int .u16 n)) [] := by kernel_rfl
theorem eq4 : Rows.laid_strconv_isPrint32 = .slice ((intsOf Rows.laid_strconv_isPrint32).map fun n => .lit (.int .u32 n)) [] := by kernel_rfl
theorem eq5 : Rows.laid_strconv_isNotPrint32 = .slice ((intsOf Rows.laid_strconv_isNotPrint32).map fun n => .lit (.int .u16 n)) [] := by kernel_rfl
theorem eq6 : Rows.laid_strconv_isGraphic = .slice ((intsOf Rows.laid_strconv_isGraphic).map fun n => .lit (.int .u16 n)) [] := by kernel_rfl
theorem fits (k : IntKind) (l : List Int) (h : (l.all fun n => (Lit.int k n).wf) = true) : ∀ n ∈ l, (Lit.int k n).wf = true := by simpa using h

theorem piece2 (os : Os) (args : Array Value) : LaidIn Tryf.prog (atCall Tryf.prog os args) [("strconv.isPrint16", Rows.laid_strconv_isPrint16)] [2, N0 Tryf.prog] := by
  rw [eq2]
  exact laidIn_ints (name := "strconv.isPrint16") (g := 2) (R := N0 Tryf.prog) (t := 68) (e := 67) (tg := 68) (k := .u16) (by kernel_rfl) (by kernel_rfl) (by kernel_rfl) (by kernel_rfl) (by kernel_rfl) (Nat.le_of_ble_eq_true (by kernel_rfl)) (fits _ _ (by kernel_rfl)) (by kernel_rfl) (by kernel_rfl) (Nat.ne_of_beq_eq_false (by kernel_rfl))
theorem piece3 (os : Os) (args : Array Value) : LaidIn Tryf.prog (atCall Tryf.prog os args) [("strconv.isNotPrint16", Rows.laid_strconv_isNotPrint16)] [3, N0 Tryf.prog + 1] := by
  rw [eq3]
  exact laidIn_ints (name := "strconv.isNotPrint16") (g := 3) (R := N0 Tryf.prog + 1) (t := 68) (e := 67) (tg := 68) (k := .u16) (by kernel_rfl) (by kernel_rfl) (by kernel_rfl) (by kernel_rfl) (by kernel_rfl) (Nat.le_of_ble_eq_true (by kernel_rfl)) (fits _ _ (by kernel_rfl)) (by kernel_rfl) (by kernel_rfl) (Nat.ne_of_beq_eq_false (by kernel_rfl))
theorem piece4 (os : Os) (args : Array Value) : LaidIn Tryf.prog (atCall Tryf.prog os args) [("strconv.isPrint32", Rows.laid_strconv_isPrint32)] [4, N0 Tryf.prog + 2] := by
  rw [eq4]
  exact laidIn_ints (name := "strconv.isPrint32") (g := 4) (R := N0 Tryf.prog + 2) (t := 72) (e := 71) (tg := 72) (k := .u32) (by kernel_rfl) (by kernel_rfl) (by kernel_rfl) (by kernel_rfl) (by kernel_rfl) (Nat.le_of_ble_eq_true (by kernel_rfl)) (fits _ _ (by kernel_rfl)) (by kernel_rfl) (by kernel_rfl) (Nat.ne_of_beq_eq_false (by kernel_rfl))
theorem piece5 (os : Os) (args : Array Value) : LaidIn Tryf.prog (atCall Tryf.prog os args) [("strconv.isNotPrint32", Rows.laid_strconv_isNotPrint32)] [5, N0 Tryf.prog + 3] := by
  rw [eq5]
  exact laidIn_ints (name := "strconv.isNotPrint32") (g := 5) (R := N0 Tryf.prog + 3) (t := 68) (e := 67) (tg := 68) (k := .u16) (by kernel_rfl) (by kernel_rfl) (by kernel_rfl) (by kernel_rfl) (by kernel_rfl) (Nat.le_of_ble_eq_true (by kernel_rfl)) (fits _ _ (by kernel_rfl)) (by kernel_rfl) (by kernel_rfl) (Nat.ne_of_beq_eq_false (by kernel_rfl))
theorem piece6 (os : Os) (args : Array Value) : LaidIn Tryf.prog (atCall Tryf.prog os args) [("strconv.isGraphic", Rows.laid_strconv_isGraphic)] [6, N0 Tryf.prog + 4] := by
  rw [eq6]
  exact laidIn_ints (name := "strconv.isGraphic") (g := 6) (R := N0 Tryf.prog + 4) (t := 68) (e := 67) (tg := 68) (k := .u16) (by kernel_rfl) (by kernel_rfl) (by kernel_rfl) (by kernel_rfl) (by kernel_rfl) (Nat.le_of_ble_eq_true (by kernel_rfl)) (fits _ _ (by kernel_rfl)) (by kernel_rfl) (by kernel_rfl) (Nat.ne_of_beq_eq_false (by kernel_rfl))

theorem laid_met (os : Os) (args : Array Value) : laidMet Tryf.prog laidL (atCall Tryf.prog os args) :=
  ((pieceA os args).append ((piece6 os args).append ((piece3 os args).append ((piece5 os args).append ((piece2 os args).append ((piece4 os args).append (pieceF os args) (by kernel_rfl)) (by kernel_rfl)) (by kernel_rfl)) (by kernel_rfl)) (by kernel_rfl)) (by kernel_rfl)).met

end Go.Proofs.Qxb6616388aFmt

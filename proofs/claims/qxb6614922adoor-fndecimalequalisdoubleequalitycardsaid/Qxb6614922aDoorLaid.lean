/-
  What the row lists is what the road asks; the start that is shown to be there.
-/
import Derived.Test.Qxb6614922aDoorW4
import Derived.Lib.LaidU8
import Derived.ProofKit
import Derived.Lay
namespace Go.Proofs.Qxb6614922aDoor
open Go.RowKit Go.Lib Go.Shelf
set_option maxRecDepth 1000000

abbrev laidL : List (String × DataW Unit) := Rows.fnDecimalEqualIsDoubleEqualityRow.laid
def nmTab : String := (laidL.map (fun x => x.1)).getD 7 default

theorem tenEq : (Rows.laid_internal_strconv_uint64pow10 : DataW Unit) = tabData .u64 Lib.pow10Tab := by kernel_rfl
theorem powEq : (Rows.laid_internal_strconv_pow10Tab : DataW Unit) = .agg (Go.Pinned.pow10Rows.map fun x => .agg ([(x.1 : Int), (x.2 : Int)].map fun z => .lit (.int .u64 z))) := by kernel_rfl

theorem ten_of {W : World} (h : VarReads Tryd.prog W Tryd.nmPow (tabData .u64 Lib.pow10Tab)) : Lib.TabIs Tryd.prog W Tryd.nmPow .u64 Lib.pow10Tab := by
  obtain ⟨g, t, cs, fuel, p, hg, hty, hvar, hd⟩ := h
  obtain rfl := Option.some.inj (nmPow_at.symm.trans hg)
  obtain rfl := Option.some.inj ((show (Tryd.prog.globals[5]?).map (·.type) = some 125 by kernel_rfl).symm.trans hty)
  have hcs := cells_of_tab Tryd.underlying125 Tryd.underlying84 (by kernel_rfl) (by kernel_rfl) hd
  unfold Lib.TabIs
  rw [hvar]
  congr 1
  exact Array.ext' (by rw [hcs])

theorem pow_of {W : World} (h : VarReads Tryd.prog W nmTab (.agg (Go.Pinned.pow10Rows.map fun x => .agg ([(x.1 : Int), (x.2 : Int)].map fun z => .lit (.int .u64 z))))) :
    ∀ i : Nat, i < 696 → W.cell? ⟨6, i * 2, none⟩ = some (.int .u64 (Pd.hiT ((i : Int) - 348) : Nat)) ∧ W.cell? ⟨6, i * 2 + 1, none⟩ = some (.int .u64 (Pd.loT ((i : Int) - 348) : Nat)) := by
  intro i hi
  obtain ⟨g, t, cs, fuel, p, hg, hty, hvar, hd⟩ := h
  obtain rfl := Option.some.inj ((show Tryd.prog.globalNamed nmTab = some 6 by kernel_rfl).symm.trans hg)
  obtain rfl := Option.some.inj ((show (Tryd.prog.globals[6]?).map (·.type) = some 139 by kernel_rfl).symm.trans hty)
  have c138 : Tryd.prog.cellsOf 138 = 2 := by kernel_rfl
  have c84 : Tryd.prog.cellsOf 84 = 1 := by kernel_rfl
  obtain ⟨fuel', d, q, hdi, he⟩ := array_elem Tryd.underlying139 hd i hi
  rw [← Pd.tabHL] at hdi
  simp only [List.map_map, List.getElem?_map, List.getElem?_range hi, Option.map_some, Option.some.injEq, Function.comp] at hdi
  subst hdi
  rw [c138] at he
  have hcs := ints_of_struct Tryd.underlying138 (fun j f hj => by
    match j, hj with
    | 0, hj => simp at hj; subst hj; exact ⟨Tryd.underlying84, rfl, c84⟩
    | 1, hj => simp at hj; subst hj; exact ⟨Tryd.underlying84, rfl, c84⟩
    | j + 2, hj => simp at hj) (by rw [c138]; rfl) he
  have e0 := congrArg (·[0]?) hcs
  have e1 := congrArg (·[1]?) hcs
  simp only [List.getElem?_take, List.getElem?_drop] at e0 e1
  constructor
  · rw [World.var?_cell hg hvar (i * 2), ← Array.getElem?_toList]
    simpa using e0
  · rw [World.var?_cell hg hvar (i * 2 + 1), ← Array.getElem?_toList]
    simpa using e1

theorem env_of (W : World) (hL : laidMet Tryd.prog laidL W) : Env W :=
  ⟨pow_of (powEq ▸ Lib.laidMet.reads hL (.tail _ (.tail _ (.tail _ (.tail _ (.tail _ (.tail _ (.tail _ (.head _))))))))), ten_of (tenEq ▸ Lib.laidMet.reads hL (.tail _ (.tail _ (.tail _ (.head _)))))⟩

theorem wit_shaped (os : Os) (args : Array Value) : ((World.laidAll Tryd.prog os Rows.fnDecimalEqualIsDoubleEqualityRow.laid).forCall (fun _ _ => 0) ⟨#[], args, []⟩).Shaped Tryd.checked.prog := World.shaped_of_ZipB (by kernel_rfl) (by kernel_rfl)
theorem wit_laid (os : Os) (args : Array Value) : laidMet Tryd.prog Rows.fnDecimalEqualIsDoubleEqualityRow.laid ((World.laidAll Tryd.prog os Rows.fnDecimalEqualIsDoubleEqualityRow.laid).forCall (fun _ _ => 0) ⟨#[], args, []⟩).memory :=
  laidMet_laidAll args (by kernel_rfl) (by kernel_rfl)

end Go.Proofs.Qxb6614922aDoor

/-
  What the rows list is what the road asks; an argument of strings.
-/
import Derived.Test.Qxb6616414aDoorW1
import Derived.Test.Qxb6616414aDoorRows
import Derived.Lib.LaidCaseMet
import Derived.PinnedBridge
import Derived.ProofKit
namespace Go.Proofs.Qxb6616414aDoor
open Go.RowKit Go.Lib Go.Shelf
set_option maxRecDepth 1000000

abbrev laidL : List (String × DataW Unit) := Rows.fnInOtherCaseConcatRow.laid

theorem acceptEq : (Rows.laid_unicode_utf8_acceptRanges : DataW Unit) = acceptData := by kernel_rfl
def foldZ : List Int := (List.range 128).map fun r => (Pl.asciiF r : Int)
theorem foldEq : (Rows.laid_unicode_asciiFold : DataW Unit) = tabData .u16 foldZ := by kernel_rfl
def orbData : List (DataW Unit) := Pl.orb.map fun p => .agg ([(p.1 : Int), (p.2 : Int)].map fun z => .lit (.int .u16 z))
theorem orbEq : (Rows.laid_unicode_caseOrbit : DataW Unit) = .slice orbData [] := by kernel_rfl
theorem orbLen : Pl.orb.length = 94 := by kernel_rfl

theorem fold_of {W : World} (h : VarReads Tryd.prog W "unicode.asciiFold" (tabData .u16 foldZ)) : ∀ j, j < 128 → W.cell? ⟨0, j, none⟩ = some (.int .u16 (Pl.asciiF j)) := by
  intro j hj
  obtain ⟨g, t, cs, fuel, p, hg, hty, hvar, hd⟩ := h
  obtain rfl := Option.some.inj ((show Tryd.prog.globalNamed "unicode.asciiFold" = some 0 by kernel_rfl).symm.trans hg)
  obtain rfl := Option.some.inj ((show (Tryd.prog.globals[0]?).map (·.type) = some 39 by kernel_rfl).symm.trans hty)
  have hcs := cells_of_tab Tryd.underlying39 Tryd.underlying38 (by kernel_rfl) (by kernel_rfl) hd
  have := World.var?_cell hg hvar j
  rw [this, ← Array.getElem?_toList, hcs]
  simp [foldZ, hj]

theorem orb_of {W : World} (h : VarReads Tryd.prog W "unicode.caseOrbit" (.slice orbData [])) : ∃ R oR cap, W.cell? ⟨1, 0, none⟩ = some (.slice (some ⟨R, oR, none⟩) 94 cap) ∧ ∀ i, i < 94 → W.cell? ⟨R, oR + i * 2, none⟩ = some (.int .u16 (Pl.orb.getD i (0, 0)).1) ∧ W.cell? ⟨R, oR + i * 2 + 1, none⟩ = some (.int .u16 (Pl.orb.getD i (0, 0)).2) := by
  obtain ⟨g, t, cs, fuel, p, hg, hty, hvar, hd⟩ := h
  obtain rfl := Option.some.inj ((show Tryd.prog.globalNamed "unicode.caseOrbit" = some 1 by kernel_rfl).symm.trans hg)
  obtain rfl := Option.some.inj ((show (Tryd.prog.globals[1]?).map (·.type) = some 40 by kernel_rfl).symm.trans hty)
  have c43 : Tryd.prog.cellsOf 43 = 2 := by kernel_rfl
  have c38 : Tryd.prog.cellsOf 38 = 1 := by kernel_rfl
  rcases DataW.trod_slice Tryd.underlying40 hd with ⟨_, hx'⟩ | ⟨a', len, cap, el, rs, m, rfl, hc0, hx', _, hlc, _, hel, helem, hsp, _⟩
  · cases hx'
  have e0 := congrArg Prod.fst hx'
  simp only [DataW.slice.injEq] at e0
  obtain ⟨eE, eR⟩ := e0
  have hlen : len = 94 := by
    have := congrArg List.length eE
    simp [orbData, orbLen] at this
    omega
  subst hlen
  have hrow : ∀ i, i < 94 → ∀ j, j < 2 → W.cell? ((a'.add (i * 2)).add j) = ([.int .u16 (Pl.orb.getD i (0, 0)).1, .int .u16 (Pl.orb.getD i (0, 0)).2] : List Value)[j]? := by
    intro i hi j hj
    have h1 := helem i hi
    rw [c43] at h1
    obtain ⟨b, hb⟩ : ∃ b, el[i]? = some b := ⟨el[i]'(by omega), List.getElem?_eq_getElem (by omega)⟩
    rw [hb] at h1
    obtain ⟨ce, hce, hte⟩ := Option.bind_eq_some_iff.1 h1
    have hi' : i < Pl.orb.length := by rw [orbLen]; exact hi
    have hb1 : b.1 = .agg ([((Pl.orb.getD i (0, 0)).1 : Int), ((Pl.orb.getD i (0, 0)).2 : Int)].map fun z => .lit (.int .u16 z)) := by
      have := congrArg (·[i]?) eE
      simp only [orbData, List.getElem?_map, hb, Option.map_some] at this
      rw [List.getElem?_eq_getElem hi'] at this
      simp only [Option.map_some, Option.some.injEq] at this
      rw [← this]
      simp [List.getD, hi']
    obtain ⟨b1, b2⟩ := b
    simp only at hb1
    subst hb1
    have hcs := ints_of_struct Tryd.underlying43 (fun j f hj => by
      match j, hj with
      | 0, hj => simp at hj; subst hj; exact ⟨Tryd.underlying38, rfl, c38⟩
      | 1, hj => simp at hj; subst hj; exact ⟨Tryd.underlying38, rfl, c38⟩
      | j + 2, hj => simp at hj) (by rw [c43]; rfl) hte
    obtain ⟨_, _, hcc⟩ := World.cells?_some hce
    rw [hcc j hj, hcs]
    rfl
  obtain ⟨R, oR, sR⟩ := a'
  obtain rfl : sR = none := by
    have h00 := hrow 0 (by omega) 0 (by omega)
    have : (Addr.add (Addr.add ⟨R, oR, sR⟩ (0 * 2)) 0) = ⟨R, oR, sR⟩ := by simp [Addr.add]
    rw [this] at h00
    exact cell_spot h00
  refine ⟨R, oR, cap, ?_, fun i hi => ?_⟩
  · rw [World.var?_cell hg hvar 0, ← Array.getElem?_toList, hc0]
    rfl
  · have k0 := hrow i hi 0 (by omega)
    have k1 := hrow i hi 1 (by omega)
    rw [Addr.add_lit, Addr.add_lit] at k0 k1
    exact ⟨by simpa using k0, by simpa using k1⟩

def caseRen : Go.Shelf.Ren := ⟨Tryd.lays274_ren.f, Tryd.lays274_ren.t, fun | 13 => 2 | n => n⟩
theorem caseLays : Go.Proofs.Lays.n274 Tryd.prog caseRen := { Tryd.lays274 with }

theorem env_of (W : World) (hL : laidMet Tryd.prog laidL W) : Env W := by
  have hU : Lib.Utf8Tabs 3 4 W :=
    utf8Tabs_of_reads (ρ := Tryd.lays260_ren) Tryd.lays260 ⟨by kernel_rfl, by kernel_rfl, by kernel_rfl, by kernel_rfl, by kernel_rfl, by kernel_rfl, by kernel_rfl⟩
      (Pinned.utf8First_eq ▸ Lib.laidMet.reads hL (.tail _ (.tail _ (.tail _ (.tail _ (.head _)))))) (acceptEq ▸ Lib.laidMet.reads hL (.head _))
  refine ⟨hU, fold_of (foldEq ▸ Lib.laidMet.reads hL (.tail _ (.head _))), orb_of (orbEq ▸ Lib.laidMet.reads hL (.tail _ (.tail _ (.head _)))), ?_⟩
  exact caseVar_of_reads (ρ := caseRen) caseLays Tryd.underlying54 ⟨by kernel_rfl, by kernel_rfl, by kernel_rfl, by kernel_rfl, by kernel_rfl, by kernel_rfl⟩ (by rw [← Pinned.caseRanges_eq]; exact Lib.laidMet.reads hL (.tail _ (.tail _ (.tail _ (.head _)))))

end Go.Proofs.Qxb6616414aDoor

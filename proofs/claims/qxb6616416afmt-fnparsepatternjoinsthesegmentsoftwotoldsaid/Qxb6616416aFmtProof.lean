/-
  THE TOLD AND TIED CARD of FnParsePatternJoinsTheSegmentsOfTwo, proved.
-/
import Derived.Test.Qxb6616416aFmtW13
import Derived.Test.Qxb6616416aFmtCards
import Derived.Test.Qxb6616416aFmtTie
import Derived.ProofKit
import Derived.Stop.JoinedAt
import Derived.Stop.Texts
import Derived.Stop.JoinedTold
import Derived.Deep.DeepWitnessRef
import Derived.Lib.LaidIn
import Derived.Lib.LaidU8
import Derived.PinnedBridge
import Derived.SizedLaws
namespace Go.Proofs.Qxb6616416aFmt
open Go.ChangeShapes Go.WideShapes Go.ChangeAt Go.RowKit Go.Kit Go.Lib Go.Shelf
open Go.ChangeMaps (open_string shut_string)
open Go.Extern.Stop Go.Stop Go.Extern
set_option maxRecDepth 100000

theorem own : ownKnob Tryf.prog.godebug = none := by kernel_rfl
theorem laidOut : laidOutB Tryf.pinned.checked.prog = true := by kernel_rfl

/-- a table's cells, out of its datum -/
def litCells {H : Type} : DataW H → List Value
  | .lit (.int k n) => [.int k n]
  | .agg l => l.flatMap fun | .lit (.int k n) => [.int k n] | .agg l' => l'.flatMap (fun | .lit (.int k n) => [.int k n] | _ => []) | _ => []
  | _ => []

/-- a world in which the two tables hold what the row lists -/
def laidWorld (P : Program) (os : Os) : World :=
  let w0 := World.holding P os ⟨#[], #[], []⟩
  let put (h : Array Obj) (g : Nat) (cs : Array Value) : Array Obj := h.modify g fun
    | .cells _ t frozen => .cells cs t frozen
    | o => o
  { w0 with heap := put (put w0.heap 0 (litCells Rows.laid_unicode_utf8_first).toArray) 1 (litCells (Rows.laid_unicode_utf8_acceptRanges : DataW Unit)).toArray }

theorem laid_met (os : Os) (args : Array Value) : laidMet Tryf.prog Rows.fnParsePatternJoinsTheSegmentsOfTwoRow.laid ((laidWorld Tryf.prog os).forCall (fun _ _ => 0) ⟨#[], args, []⟩).memory :=
  (LaidIn.of_run [1, 0] 10 (by kernel_rfl) (by kernel_rfl) (by kernel_rfl) (by kernel_rfl)).met

theorem witness_row (os : Os) {H : Type} (enc : TypeId × Value → H) :
    (OpenSpec.ofChange Rows.fnParsePatternJoinsTheSegmentsOfTwoSpec).preRow enc Tryf.prog Tryf.f3 Rows.fnParsePatternJoinsTheSegmentsOfTwoRow.domain false Rows.fnParsePatternJoinsTheSegmentsOfTwoRow.laid ((laidWorld Tryf.prog os).forCall (fun _ _ => 0) ⟨#[], #[.string ⟨#[]⟩, .string ⟨#[]⟩], []⟩).memory #[.string ⟨#[]⟩, .string ⟨#[]⟩] := by
  have hw : (DataW.whole enc Tryf.prog ((laidWorld Tryf.prog os).forCall (fun _ _ => 0) ⟨#[], #[.string ⟨#[]⟩, .string ⟨#[]⟩], []⟩).memory Tryf.f3.params.toList (OpenSpec.ofChange Rows.fnParsePatternJoinsTheSegmentsOfTwoSpec).vars false #[Value.string ⟨#[]⟩, Value.string ⟨#[]⟩].toList 8).map (fun x => (x.1, x.2.1)) =
      some ([.lit (.string []), .lit (.string [])], []) := by kernel_rfl
  obtain ⟨⟨x1, x2, x3⟩, hx, hx1⟩ := Option.map_eq_some_iff.1 hw
  simp only [Prod.mk.injEq] at hx1
  obtain ⟨rfl, rfl⟩ := hx1
  exact OpenSpec.preRow_of_cond 8 hx (by kernel_rfl) (fun k hk => by cases hk) (by kernel_rfl) (laid_met os _)

theorem acceptEq : (Rows.laid_unicode_utf8_acceptRanges : DataW Unit) = acceptData := by kernel_rfl

theorem fn_lifted (os : Os) (started : os.Started) (H : Type) (enc : TypeId × Value → H) :
    ReturnsInTold none {} Tryf.checked os 3 .any Input.okWide ((OpenSpec.ofChange Rows.fnParsePatternJoinsTheSegmentsOfTwoSpec).preRow enc Tryf.prog Tryf.f3 Rows.fnParsePatternJoinsTheSegmentsOfTwoRow.domain false Rows.fnParsePatternJoinsTheSegmentsOfTwoRow.laid)
      (fun F => ((OpenSpec.ofChange Rows.fnParsePatternJoinsTheSegmentsOfTwoSpec).at F).post enc Tryf.prog Tryf.f3 false true false false) (aloneAtReturn Tryf.prog) nothingAlways := by
  intro F
  show ReturnsInOpen {} (some F.told) Tryf.checked os 3 .any Input.okWide _ _ (aloneAtReturn Tryf.prog) nothingAlways
  refine returnsInOpen_of_calls_wide (by kernel_rfl) own started (by kernel_rfl)
    (OpenSpec.witness_stopped_atRef (enc := enc) (C := Tryf.checked) false (laidWorld Tryf.prog os) #[.string ⟨#[]⟩, .string ⟨#[]⟩] rfl (by kernel_rfl) (by kernel_rfl) (by kernel_rfl) (witness_row os enc) F.told) ?_
  intro w tape i hos hsh _ hok hpre hholds hF
  obtain ⟨_, _, _, fn', hfn', _, _, _, _, hval0⟩ := hok
  have e : fn' = Tryf.f3 := Option.some.inj (hfn'.symm.trans Tryf.func3)
  subst e
  obtain ⟨⟨hp, hl⟩, hz⟩ := hpre
  obtain ⟨ds, gs, before, hw, hc, hk⟩ := OpenSpec.pre_parts hp
  have hW := DataW.Whole.of_heap (w' := w.forCall tape i) (by rfl) hw
  have hL := hl.of_heap (w' := w.forCall tape i) (by rfl)
  generalize i.args = args at hval0 hW ⊢
  have hsho : (w.forCall tape i).ShapedOpen Tryf.prog := hsh
  have hans : F.told.answers (w.forCall tape i).tape := hF
  generalize w.forCall tape i = W at hval0 hW hL hsho hans ⊢
  generalize w.heap.size = base at hval0
  have hval : ∀ (j : Nat) t v, Tryf.f3.params[j]? = some t → args[j]? = some v → Value.okWide Tryf.prog W .any base t v := hval0
  have hW' := hW
  obtain ⟨p, q, hA0, hV, rfl, _, _⟩ := hW
  have hA : DataW.TrodAll enc Tryf.prog W 0 (fun _ => true) true Tryf.f3.params.toList args.toList ds p := hA0
  rw [Tryf.params3] at hA hval
  obtain ⟨v0, v1, d0, d1, p0, p1, rfl, rfl, rfl, h0, h1⟩ := trodAll_two hA
  obtain ⟨rfl, rfl⟩ := trodVars_none hV
  obtain ⟨a, rfl, rfl, rfl, ha⟩ := open_string Tryf.underlying9 (hval 0 9 v0 rfl rfl) h0
  obtain ⟨b, rfl, rfl, rfl, hb⟩ := open_string Tryf.underlying9 (hval 1 9 v1 rfl rfl) h1
  clear hA0 hval0
  simp only [List.append_nil] at hW'
  have hL' : laidMet Tryf.prog Rows.fnParsePatternJoinsTheSegmentsOfTwoRow.laid W := hL
  have hU : Lib.Utf8Tabs 0 1 W :=
    utf8Tabs_of_reads (ρ := Tryf.lays197_ren) { Tryf.lays197 with } ⟨by kernel_rfl, by kernel_rfl, by kernel_rfl, by kernel_rfl, by kernel_rfl, by kernel_rfl, by kernel_rfl⟩
      (Pinned.utf8First_eq ▸ Lib.laidMet.reads hL' (.tail _ (.head _))) (acceptEq ▸ Lib.laidMet.reads hL' (.head _))
  obtain ⟨m, hm⟩ := Tryf.laysM146.s1_3 W hsho
  have hsz : 3 ≤ W.heap.size := by
    rcases Nat.lt_or_ge 2 W.heap.size with h | h
    · omega
    · have hm' : W.cell? ⟨2, 0, none⟩ = some (.int .i64 m) := hm
      simp [World.cell?, Array.getElem?_eq_none h] at hm'
  have hE : Env F W := ⟨hU, ⟨m, hm⟩, hans, hsz⟩
  refine (fn_any F a b W hE ha hb).mono fun e W' ⟨he, hbel⟩ => ?_
  subst he
  refine ChangeSpec.post_blind ⟨_, _, _, [], [], [], hW', ?_, ?_, ?_, hbel.frame _, fun h => by cases h⟩
  · exact trodAll_mk1 (shut_bool Tryf.underlying4 _)
  · exact trodAll_mk2 (shut_string Tryf.underlying9 ha) (shut_string Tryf.underlying9 hb)
  · rfl

theorem stops : Tryf.pinned.checked.prog.stops = Rows.fnParsePatternJoinsTheSegmentsOfTwoRow.stops := by kernel_rfl
theorem stopKnobs : Tryf.pinned.checked.prog.stopKnobs = [] := by kernel_rfl
theorem quiet (os : Os) : Stop.quiet Tryf.pinned.checked.prog os := by
  intro k hk
  rw [stopKnobs] at hk
  cases hk

theorem proved : Rows.FnParsePatternJoinsTheSegmentsOfTwoToldSaid :=
  Claim7.holds_of_told_tied_any_at .later 3 Tryf.f3 _ [] [] _ _ _ _ _ (by kernel_rfl) rfl rfl rfl laidOut (by kernel_rfl) rfl ⟨rfl, rfl, rfl, rfl, rfl, rfl, rfl⟩ rfl rfl (by kernel_rfl) (by kernel_rfl) Tryf.func3 (by kernel_rfl)
    (of_decide_eq_true (by kernel_rfl)) (by unfold Func.isWrapper; first | (rw [if_pos (by decide +kernel)]; kernel_rfl) | (rw [if_neg (by decide +kernel)]; exact ⟨rfl, rfl⟩)) stops.symm rfl stopKnobs.symm (by kernel_rfl)
    (by kernel_rfl) (by kernel_rfl) (by kernel_rfl) (by kernel_rfl) (by kernel_rfl) (by kernel_rfl) (by kernel_rfl) (by kernel_rfl) (by kernel_rfl) rfl (by kernel_rfl) rfl rfl
    rfl rfl
    rfl (by kernel_rfl) (by kernel_rfl) (by kernel_rfl) (by decide) (by kernel_rfl) fnParsePatternJoinsTheSegmentsOfTwo_row_tie
    (OpenClaim.moreEntering_of (by kernel_rfl) (by kernel_rfl) (by kernel_rfl) (by kernel_rfl) (by kernel_rfl) (by kernel_rfl) (by kernel_rfl) (by kernel_rfl) (by kernel_rfl) (by kernel_rfl))
    ⟨_, WideRow.started_initial, quiet _⟩
    (fun os started _ H enc _ => fn_lifted os started H enc)

#print axioms proved
end Go.Proofs.Qxb6616416aFmt

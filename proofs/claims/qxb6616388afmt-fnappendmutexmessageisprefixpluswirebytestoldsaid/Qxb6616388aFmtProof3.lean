/-
  THE TOLD AND TIED CARD of FnAppendMutexMessageIsPrefixPlusWireBytes, proved.
-/
import Derived.Test.Qxb6616388aFmtW11
import Derived.Test.Qxb6616388aFmtLaid
import Derived.Test.Qxb6616388aFmtCards
import Derived.Test.Qxb6616388aFmtTie
import Derived.ProofKit
import Derived.OpenShut
import Derived.ChangeSlices
import Derived.Carry
import Derived.Stop.JoinedAt
import Derived.Stop.Texts
import Derived.Stop.JoinedTold
import Derived.Deep.DeepWitnessRef
import Derived.Lib.LaidU8
import Derived.Lib.LaidPrint
import Derived.PinnedBridge
import Derived.SizedLaws
namespace Go.Proofs.Qxb6616388aFmt
open Go.ChangeShapes Go.WideShapes Go.ChangeAt Go.RowKit Go.Kit Go.Lib Go.Shelf
open Go.ChangeMaps (open_string shut_string)
open Go.Extern.Stop Go.Stop Go.Extern
set_option maxRecDepth 100000

theorem own : ownKnob Tryf.prog.godebug = none := by kernel_rfl
theorem laidOut : laidOutB Tryf.pinned.checked.prog = true := by kernel_rfl
theorem acceptEq : (Rows.laid_unicode_utf8_acceptRanges : DataW Unit) = acceptData := by kernel_rfl

/-- what the row lists is what the road asks -/
theorem env_of (F : Interp) (W : World) (hL : laidMet Tryf.prog laidL W) (hans : F.told.answers W.tape) : Env F W := by
  have hU : Lib.Utf8Tabs 0 1 W :=
    utf8Tabs_of_reads (ρ := Tryf.lays197_ren) { Tryf.lays197 with } ⟨by kernel_rfl, by kernel_rfl, by kernel_rfl, by kernel_rfl, by kernel_rfl, by kernel_rfl, by kernel_rfl⟩
      (Pinned.utf8First_eq ▸ Lib.laidMet.reads hL (.tail _ (.tail _ (.tail _ (.tail _ (.tail _ (.tail _ (.head _)))))))) (acceptEq ▸ Lib.laidMet.reads hL (.head _))
  have hP : Lib.PrintTabsAt 2 3 4 5 goPrintTabs W :=
    printTabs_of_reads (ρ := Tryf.lays177_ren) { Tryf.lays177 with } ⟨by kernel_rfl, by kernel_rfl, by kernel_rfl, by kernel_rfl, by kernel_rfl, by kernel_rfl, by kernel_rfl, by kernel_rfl, by kernel_rfl, by kernel_rfl⟩
      (Pinned.isPrint16_eq ▸ Lib.laidMet.reads hL (.tail _ (.tail _ (.tail _ (.tail _ (.head _))))))
      (Pinned.isNotPrint16_eq ▸ Lib.laidMet.reads hL (.tail _ (.tail _ (.head _))))
      (Pinned.isPrint32_eq ▸ Lib.laidMet.reads hL (.tail _ (.tail _ (.tail _ (.tail _ (.tail _ (.head _)))))))
      (Pinned.isNotPrint32_eq ▸ Lib.laidMet.reads hL (.tail _ (.tail _ (.tail _ (.head _)))))
  refine ⟨hU, ⟨_, hP⟩, hans, ?_⟩
  obtain ⟨_, _, _, ⟨R, o, c, h1, _⟩, _⟩ := hP
  have := World.block_lt_of_cell? W _ h1
  exact this

theorem nat_u64 {n : Int} (h : (Lit.int .u64 n).wf = true) : ∃ m : Nat, n = m ∧ m < 18446744073709551616 := by
  simp [Lit.wf, IntKind.min, IntKind.max, IntKind.signed, IntKind.bits] at h
  exact ⟨n.toNat, by omega, by omega⟩

abbrev args3 : Array Value := #[.slice none 0 0, .int .i64 0, .string ⟨#[]⟩, .string ⟨#[]⟩, .int .u64 0]
theorem cells5 : Tryf.prog.cellsOf 5 = 1 := by kernel_rfl

/-- the argument's bytes -/
theorem arg_of {H : Type} {enc : TypeId × Value → H} {W : World} {b0 : Nat} {v : Value} {d : DataW H} {p : List MemPlace} (hval : Value.okWide Tryf.prog W .any b0 22 v) (h : DataW.Trod enc Tryf.prog W 0 (fun _ => true) true 22 v d p) : ∃ L, Arg W v L := by
  obtain ⟨a0, n0, c0, rfl⟩ := okWide_slice Tryf.underlying22 hval
  obtain ⟨fuel, hf⟩ := h
  rcases open_ints Tryf.underlying22 Tryf.underlying5 cells5 hf with ⟨hcs, hx⟩ | ⟨a, len, cap, zs, hcs, _, hl, hm, hz, hx, hcell, hwz⟩
  · simp [Value.cells] at hcs
    obtain ⟨rfl, rfl, rfl⟩ := hcs
    exact ⟨[], .inl ⟨rfl, rfl⟩⟩
  · simp [Value.cells] at hcs
    obtain ⟨rfl, rfl, rfl⟩ := hcs
    simp only [if_true] at hz
    have hlen : ((zs.take n0).map fun z => z.toNat.toUInt8).length = n0 := by simp; omega
    refine ⟨(zs.take n0).map fun z => z.toNat.toUInt8, .inr ⟨a, c0, by rw [hlen], by omega, hm, fun j x hx => ?_⟩⟩
    simp only [List.getElem?_map, Option.map_eq_some_iff] at hx
    obtain ⟨z, hz1, rfl⟩ := hx
    have hj : j < n0 := by
      have := (List.getElem?_eq_some_iff.1 hz1).1
      simp at this
      omega
    rw [List.getElem?_take, if_pos hj] at hz1
    rw [hcell j (by omega)]
    have hzz : zs.getD j 0 = z := by simp [List.getD, hz1]
    rw [hzz]
    have hw := hwz z (List.mem_of_getElem? hz1)
    simp [Lit.wf, IntKind.min, IntKind.max, IntKind.signed, IntKind.bits] at hw
    simp
    omega

theorem witness_row3 (os : Os) {H : Type} (enc : TypeId × Value → H) :
    (OpenSpec.ofChange Rows.fnAppendMutexMessageIsPrefixPlusWireBytesSpec).preRow enc Tryf.prog Tryf.f3 Rows.fnAppendMutexMessageIsPrefixPlusWireBytesRow.domain false Rows.fnAppendMutexMessageIsPrefixPlusWireBytesRow.laid (atCall Tryf.prog os args3) args3 := by
  have hw : (DataW.whole enc Tryf.prog (atCall Tryf.prog os args3) Tryf.f3.params.toList (OpenSpec.ofChange Rows.fnAppendMutexMessageIsPrefixPlusWireBytesSpec).vars false args3.toList 8).map (fun x => (x.1, x.2.1)) =
      some ([.nil, .lit (.int .i64 0), .lit (.string []), .lit (.string []), .lit (.int .u64 0)], []) := by kernel_rfl
  obtain ⟨⟨x1, x2, x3⟩, hx, hx1⟩ := Option.map_eq_some_iff.1 hw
  simp only [Prod.mk.injEq] at hx1
  obtain ⟨rfl, rfl⟩ := hx1
  exact OpenSpec.preRow_of_cond 8 hx (by kernel_rfl) (fun k hk => by cases hk) (by kernel_rfl) (laid_met os _)

theorem fn3_lifted (os : Os) (started : os.Started) (H : Type) (enc : TypeId × Value → H) :
    ReturnsInTold none {} Tryf.checked os 3 .any Input.okWide ((OpenSpec.ofChange Rows.fnAppendMutexMessageIsPrefixPlusWireBytesSpec).preRow enc Tryf.prog Tryf.f3 Rows.fnAppendMutexMessageIsPrefixPlusWireBytesRow.domain false Rows.fnAppendMutexMessageIsPrefixPlusWireBytesRow.laid)
      (fun F => ((OpenSpec.ofChange Rows.fnAppendMutexMessageIsPrefixPlusWireBytesSpec).at F).post enc Tryf.prog Tryf.f3 false true false false) (aloneAtReturn Tryf.prog) nothingAlways := by
  intro F
  show ReturnsInOpen {} (some F.told) Tryf.checked os 3 .any Input.okWide _ _ (aloneAtReturn Tryf.prog) nothingAlways
  refine returnsInOpen_of_calls_wide (by kernel_rfl) own started (by kernel_rfl)
    (OpenSpec.witness_stopped_atRef (enc := enc) (C := Tryf.checked) false (laidWorld Tryf.prog os) args3 rfl (by kernel_rfl) (by kernel_rfl) (by kernel_rfl) (witness_row3 os enc) F.told) ?_
  intro w tape i hos hsh _ hok hpre hholds hF
  obtain ⟨_, _, _, fn', hfn', _, _, _, _, hval0⟩ := hok
  have e : fn' = Tryf.f3 := Option.some.inj (hfn'.symm.trans Tryf.func3)
  subst e
  obtain ⟨⟨hp, hl⟩, hz⟩ := hpre
  obtain ⟨ds, gs, before, hw, hc, hk⟩ := OpenSpec.pre_parts hp
  have hW := DataW.Whole.of_heap (w' := w.forCall tape i) (by rfl) hw
  have hL := hl.of_heap (w' := w.forCall tape i) (by rfl)
  generalize i.args = args at hval0 hW ⊢
  have hans : F.told.answers (w.forCall tape i).tape := hF
  generalize w.forCall tape i = W at hval0 hW hL hans ⊢
  generalize w.heap.size = base at hval0
  have hval : ∀ (j : Nat) t v, Tryf.f3.params[j]? = some t → args[j]? = some v → Value.okWide Tryf.prog W .any base t v := hval0
  have hW' := hW
  obtain ⟨p, q, hA0, hV, rfl, _, _⟩ := hW
  have hA : DataW.TrodAll enc Tryf.prog W 0 (fun _ => true) true Tryf.f3.params.toList args.toList ds p := hA0
  rw [Tryf.params3] at hA hval
  obtain ⟨v0, r0, d0, e0, p0, q0, ha0, rfl, rfl, h0, hA⟩ := trodAll_cons hA
  obtain ⟨v1, r1, d1, e1, p1, q1, rfl, rfl, rfl, h1, hA⟩ := trodAll_cons hA
  obtain ⟨v2, r2, d2, e2, p2, q2, rfl, rfl, rfl, h2, hA⟩ := trodAll_cons hA
  obtain ⟨v3, r3, d3, e3, p3, q3, rfl, rfl, rfl, h3, hA⟩ := trodAll_cons hA
  obtain ⟨v4, r4, d4, e4, p4, q4, rfl, rfl, rfl, h4, hA⟩ := trodAll_cons hA
  obtain ⟨rfl, rfl, rfl⟩ := trodAll_nil hA
  have hargs : args = #[v0, v1, v2, v3, v4] := by cases args; simp_all
  subst hargs
  obtain ⟨rfl, rfl⟩ := trodVars_none hV
  obtain ⟨L, hArg⟩ := arg_of (hval 0 22 v0 rfl rfl) h0
  obtain ⟨k, rfl, rfl, rfl, w1⟩ := open_int Tryf.underlying3 (hval 1 3 v1 rfl rfl) h1
  obtain ⟨f, rfl, rfl, rfl, w2⟩ := open_string Tryf.underlying9 (hval 2 9 v2 rfl rfl) h2
  obtain ⟨t, rfl, rfl, rfl, w3⟩ := open_string Tryf.underlying9 (hval 3 9 v3 rfl rfl) h3
  obtain ⟨tm, rfl, rfl, rfl, w4⟩ := open_int Tryf.underlying23 (hval 4 23 v4 rfl rfl) h4
  clear hA0 hval0
  simp only [List.append_nil] at hW'
  have hlt : ∀ x ∈ p0, x.block < W.heap.size := fun x hx => by simpa using hW'.lt x hx
  have hE : Env F W := env_of F W hL hans
  obtain ⟨m, e1, b1⟩ := nat_u64 w4
  subst e1
  refine (fn3_any F v0 L k m b1 f t W hE hArg w2 w3).mono fun e W' ⟨he, hbel⟩ => ?_
  subst he
  refine ChangeSpec.post_blind ⟨_, _, _, [], p0 ++ ([] ++ ([] ++ ([] ++ ([] ++ [])))), [], hW', ?_, ?_, ?_, hbel.frame _, fun h => by cases h⟩
  · exact trodAll_mk1 (shut_bool Tryf.underlying4 _)
  · exact trodAll_cons_mk (Below.trod laidOut (by kernel_rfl) (of_decide_eq_true (by kernel_rfl)) h0 hbel hlt) (trodAll_cons_mk (shut_int Tryf.underlying3 w1) (trodAll_cons_mk (shut_string Tryf.underlying9 w2) (trodAll_cons_mk (shut_string Tryf.underlying9 w3)
      (trodAll_cons_mk (shut_int Tryf.underlying23 w4) trodAll_mk0))))
  · rfl

theorem stops3 : Tryf.pinned.checked.prog.stops = Rows.fnAppendMutexMessageIsPrefixPlusWireBytesRow.stops := by kernel_rfl
theorem stopKnobs : Tryf.pinned.checked.prog.stopKnobs = [] := by kernel_rfl
theorem quiet (os : Os) : Stop.quiet Tryf.pinned.checked.prog os := by
  intro k hk
  rw [stopKnobs] at hk
  cases hk

theorem proved : Rows.FnAppendMutexMessageIsPrefixPlusWireBytesToldSaid :=
  Claim7.holds_of_told_tied_any_at .later 3 Tryf.f3 _ [] [] _ _ _ _ _ (by kernel_rfl) rfl rfl rfl laidOut (by kernel_rfl) rfl ⟨rfl, rfl, rfl, rfl, rfl, rfl, rfl⟩ rfl rfl (by kernel_rfl) (by kernel_rfl) Tryf.func3 (by kernel_rfl)
    (of_decide_eq_true (by kernel_rfl)) (by unfold Func.isWrapper; first | (rw [if_pos (by decide +kernel)]; kernel_rfl) | (rw [if_neg (by decide +kernel)]; exact ⟨rfl, rfl⟩)) stops3.symm rfl stopKnobs.symm (by kernel_rfl)
    (by kernel_rfl) (by kernel_rfl) (by kernel_rfl) (by kernel_rfl) (by kernel_rfl) (by kernel_rfl) (by kernel_rfl) (by kernel_rfl) (by kernel_rfl) rfl (by kernel_rfl) rfl rfl
    rfl rfl
    rfl (by kernel_rfl) (by kernel_rfl) (by kernel_rfl) (by decide) (by kernel_rfl) fnAppendMutexMessageIsPrefixPlusWireBytes_row_tie
    (OpenClaim.moreEntering_of (by kernel_rfl) (by kernel_rfl) (by kernel_rfl) (by kernel_rfl) (by kernel_rfl) (by kernel_rfl) (by kernel_rfl) (by kernel_rfl) (by kernel_rfl) (by kernel_rfl))
    ⟨_, WideRow.started_initial, quiet _⟩
    (fun os started _ H enc _ => fn3_lifted os started H enc)

#print axioms proved
end Go.Proofs.Qxb6616388aFmt

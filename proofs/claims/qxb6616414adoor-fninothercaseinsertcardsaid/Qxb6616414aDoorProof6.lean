/-
  THE TIED CARD of FnInOtherCaseInsert, proved.
-/
import Derived.Test.Qxb6616414aDoorW11
import Derived.Test.Qxb6616414aDoorArg
import Derived.Test.Qxb6616414aDoorWit
import Derived.Test.Qxb6616414aDoorCards
import Derived.Test.Qxb6616414aDoorTie
import Derived.ProofKit
import Derived.OpenShut
import Derived.LaidMore
import Derived.Carry
import Derived.SevenTiedAt
import Derived.Stop.Joined
import Derived.SizedLaws
namespace Go.Proofs.Qxb6616414aDoor
open Go.ChangeShapes Go.WideShapes Go.ChangeAt Go.RowKit Go.Lib Go.Shelf
open Go.ChangeMaps (open_string shut_string)
set_option maxRecDepth 100000

theorem own : ownKnob Tryd.prog.godebug = none := by kernel_rfl

theorem lifted (os : Os) (started : os.Started) (H : Type) (enc : TypeId × Value → H) :
    ReturnsInHanded {} Tryd.checked os 4 .any (fun w args => (Rows.fnInOtherCaseInsertSpec.pre enc Tryd.prog Tryd.f4 Rows.fnInOtherCaseInsertRow.domain false w args ∧ laidMetH Tryd.prog Rows.fnInOtherCaseInsertRow.laid w) ∧ sizedMet enc Tryd.prog Tryd.f4 (OpenSpec.ofChange Rows.fnInOtherCaseInsertSpec) false w args)
      (Rows.fnInOtherCaseInsertSpec.post enc Tryd.prog Tryd.f4 false true false false) := by
  refine returnsInHanded_of_change_and (C := Tryd.checked) (X := fun w _ => laidMetH Tryd.prog Rows.fnInOtherCaseInsertRow.laid w) (fun _ _ _ hh h => h.of_heap hh) own started (by kernel_rfl) Tryd.func4
    (ChangeSpec.witness_shaped (enc := enc) (C := Tryd.checked) (os := os) (X := fun w _ => laidMetH Tryd.prog Rows.fnInOtherCaseInsertRow.laid w) false (World.laidAll Tryd.prog os Rows.fnInOtherCaseInsertRow.laid) #[.string ⟨#[]⟩, .slice none 0 0, .int .i64 0] 8 (World.laidAll_os _ _ _)
      (wit_shaped os _) (by kernel_rfl) (by kernel_rfl) (by kernel_rfl)
      (by rw [MakeChecks.laidMetH_plain _ _ _ (by kernel_rfl)]; exact wit_laid os _)) ?_
  intro W base args ds gs before hval0 hW hc _ hL _
  have hval : ∀ (j : Nat) t v, Tryd.f4.params[j]? = some t → args[j]? = some v → Value.okWide Tryd.prog W .any base t v := hval0
  have hE : Env W := env_of W (by rw [MakeChecks.laidMetH_plain _ _ _ (by kernel_rfl)] at hL; exact hL)
  have hW' := hW
  obtain ⟨p, q, hA0, hV, rfl, _, _⟩ := hW
  have hA : DataW.TrodAll enc Tryd.prog W 0 (fun _ => true) true Tryd.f4.params.toList args.toList ds p := hA0
  rw [Tryd.params4] at hA hval
  obtain ⟨v0, r0, d0, e0, p0, q0, ha0, rfl, rfl, h0, hA⟩ := trodAll_cons hA
  obtain ⟨v1, r1, d1, e1, p1, q1, rfl, rfl, rfl, h1, hA⟩ := trodAll_cons hA
  obtain ⟨v2, r2, d2, e2, p2, q2, rfl, rfl, rfl, h2, hA⟩ := trodAll_cons hA
  obtain ⟨rfl, rfl, rfl⟩ := trodAll_nil hA
  have hargs : args = #[v0, v1, v2] := by cases args; simp_all
  subst hargs
  obtain ⟨rfl, rfl⟩ := trodVars_none hV
  obtain ⟨name, rfl, rfl, rfl, w0⟩ := open_string Tryd.underlying9 (hval 0 9 v0 rfl rfl) h0
  obtain ⟨A, hAA⟩ := arg_of (hval 1 22 v1 rfl rfl) h1
  obtain ⟨i, rfl, rfl, rfl, w2⟩ := open_int Tryd.underlying3 (hval 2 3 v2 rfl rfl) h2
  clear hA0 hval0
  simp only [List.append_nil] at hW'
  have hlt1 : ∀ x ∈ p1, x.block < W.heap.size := fun x hx => by simpa using hW'.lt x (by simp [hx])
  refine (fn4_any name v1 A i W hE hAA w0).mono fun e W' ⟨he, hbel⟩ => ?_
  subst he
  refine ⟨_, rfl, ⟨_, _, _, [], [] ++ (p1 ++ ([] ++ [])), [], hW', ?_, ?_, ?_, hbel.frame _, fun h => by cases h⟩⟩
  · exact trodAll_mk1 (shut_bool Tryd.underlying4 _)
  · exact trodAll_cons_mk (shut_string Tryd.underlying9 w0) (trodAll_cons_mk (Below.trod laidOut (by kernel_rfl) (of_decide_eq_true (by kernel_rfl)) h1 hbel hlt1) (trodAll_cons_mk (shut_int Tryd.underlying3 w2) trodAll_mk0))
  · rfl

theorem holds : Rows.FnInOtherCaseInsertSaid :=
  OpenClaim.holds_of_wide 4 Tryd.f4 rfl rfl rfl rfl rfl rfl rfl ⟨rfl, rfl, rfl, rfl, rfl⟩ rfl rfl rfl rfl rfl (by kernel_rfl) Tryd.func4 (by kernel_rfl)
    (of_decide_eq_true (by kernel_rfl)) (by unfold Func.isWrapper; first | (rw [if_pos (by decide +kernel)]; kernel_rfl) | (rw [if_neg (by decide +kernel)]; exact ⟨rfl, rfl⟩))
    (fun os started H enc _ => lifted os started H enc)

theorem proved : Rows.FnInOtherCaseInsertCardSaid :=
  Claim7.holds_tied_plain_at .later [] [.data, .data, .data, .pinned, .pinned] true (true, "48c36b79f0c9800ce1976136d055dc7c823d552251f6c8e2d50846aea501b7d2") false holds (fun _ h => by cases h) (by kernel_rfl) (fun _ h => by cases h) fnInOtherCaseInsert_row_tie rfl ⟨rfl, rfl⟩ (by kernel_rfl) rfl
    (fun f fn hf hfn => by
      obtain rfl : f = 4 := Option.some.inj ((show Tryd.prog.funcNamed Rows.fnInOtherCaseInsertRow.func = some 4 by kernel_rfl).symm.trans hf) |>.symm
      obtain rfl : fn = Tryd.f4 := (Option.some.inj (Tryd.func4.symm.trans hfn)).symm
      exact ⟨by kernel_rfl, fun j t ht => by
        rw [Tryd.params4] at ht
        have hm : t ∈ [9, 22, 3] := by simpa using Array.mem_of_getElem? ht
        have hall : ([9, 22, 3].all fun u => !Tryd.prog.wantsStandIn u) = true := by kernel_rfl
        exact (show Tryd.prog.wantsStandIn t = false by simpa using List.all_eq_true.1 hall t hm)⟩)
    (by kernel_rfl)

#print axioms proved
end Go.Proofs.Qxb6616414aDoor

/-
  The row of FnLevelOfStepsOneLevelPerIndent proved, and its tied card.
-/
import Derived.Test.Qxb6604427aDoorCommon
import Derived.Test.Qxb6604427aDoorTie
import Derived.Test.Qxb6604427aDoorCards
import Derived.SevenTiedAt
namespace Go.Proofs.Qxb6604427aDoor
open Go.ChangeShapes Go.WideShapes Go.ChangeAt Go.RowKit

set_option maxRecDepth 100000 in
theorem fnLevelOfStepsOneLevelPerIndent_lifted (os : Os) (started : os.Started) (H : Type) (enc : TypeId × Value → H) :
    ReturnsInHanded {} Tryd.checked os 4 .any (fun w args => (Rows.fnLevelOfStepsOneLevelPerIndentSpec.pre enc Tryd.prog Tryd.f4 [] false w args ∧ laidMetH Tryd.prog [("io.EOF", Rows.laid_io_EOF)] w) ∧ sizedMet enc Tryd.prog Tryd.f4 (OpenSpec.ofChange Rows.fnLevelOfStepsOneLevelPerIndentSpec) false w args)
      (Rows.fnLevelOfStepsOneLevelPerIndentSpec.post enc Tryd.prog Tryd.f4 false true false false) := by
  refine returnsInHanded_of_change_and (C := Tryd.checked) (X := fun w _ => laidMetH Tryd.prog [("io.EOF", Rows.laid_io_EOF)] w) (fun _ _ _ hh h => h.of_heap hh) own started (by kernel_rfl) Tryd.func4
    (ChangeSpec.witness_shaped (enc := enc) (C := Tryd.checked) (os := os) (X := fun w _ => laidMetH Tryd.prog [("io.EOF", Rows.laid_io_EOF)] w) false (World.doorLaid Tryd.prog 400 os) #[.int .i64 0, .int .i64 0] 8 rfl (World.shaped_of_RefB (by kernel_rfl) (by kernel_rfl)) (by kernel_rfl) (by kernel_rfl) (by kernel_rfl) (door_met os _)) ?_
  intro W base args ds gs before hval0 hW _ _ hL _
  have hval : ∀ (j : Nat) t v, Tryd.f4.params[j]? = some t → args[j]? = some v → Value.okWide Tryd.prog W .any base t v := hval0
  have hW' := hW
  obtain ⟨p, q, hA0, hV, rfl, hfz, hnd⟩ := hW
  have hA : DataW.TrodAll enc Tryd.prog W 0 (fun _ => true) true Tryd.f4.params.toList args.toList ds p := hA0
  rw [Tryd.params4] at hA hval
  obtain ⟨v0, v1, d0, d1, p0, p1, rfl, rfl, rfl, h0, h1⟩ := trodAll_two hA
  obtain ⟨rfl, rfl⟩ := trodVars_none hV
  obtain ⟨ind, rfl, rfl, rfl, wi⟩ := open_int Tryd.underlying3 (hval 0 3 v0 rfl rfl) h0
  obtain ⟨width, rfl, rfl, rfl, ww⟩ := open_int Tryd.underlying3 (hval 1 3 v1 rfl rfl) h1
  obtain ⟨a, hE⟩ := eof_of_laid hL
  obtain ⟨bi1, bi2⟩ := bounds_i64 wi
  obtain ⟨bw1, bw2⟩ := bounds_i64 ww
  clear hA0 hval0
  simp only [List.append_nil] at hW'
  refine (law_steps ind width 78 (some a) W hE bi2 bw1 bw2).mono fun e W' ⟨he, hB⟩ => ?_
  subst he
  exact ⟨_, rfl, _, _, _, [], [], [], hW', trodAll_mk1 (shut_bool Tryd.underlying4 _), trodAll_mk2 (shut_int Tryd.underlying3 wi) (shut_int Tryd.underlying3 ww), rfl, hB.frame _, fun h => by cases h⟩

theorem fnLevelOfStepsOneLevelPerIndent_holds : Rows.FnLevelOfStepsOneLevelPerIndentSaid :=
  OpenClaim.holds_of_wide 4 Tryd.f4 rfl rfl rfl rfl rfl rfl rfl ⟨rfl, rfl, rfl, rfl, rfl⟩ rfl rfl rfl rfl rfl (by kernel_rfl) Tryd.func4 (by kernel_rfl)
    (of_decide_eq_true (by kernel_rfl)) (by unfold Func.isWrapper; first | (rw [if_pos (by decide +kernel)]; kernel_rfl) | (rw [if_neg (by decide +kernel)]; exact ⟨rfl, rfl⟩))
    (fun os started H enc _ => fnLevelOfStepsOneLevelPerIndent_lifted os started H enc)

theorem fnLevelOfStepsOneLevelPerIndent_card : Rows.FnLevelOfStepsOneLevelPerIndentCardSaid :=
  Claim7.holds_tied_plain_at .later [] [.sentinel] true (true, "b26918505317dc53c1ad53ca4ea782a50e306d1e09647b19311ead4c70a70793") false
    fnLevelOfStepsOneLevelPerIndent_holds (fun _ h => by cases h) (by kernel_rfl) (fun _ h => by cases h) fnLevelOfStepsOneLevelPerIndent_row_tie rfl ⟨rfl, rfl⟩ (by kernel_rfl) rfl
    (fun f fn hf hfn => by
      obtain rfl : f = 4 := Option.some.inj ((show Tryd.prog.funcNamed Rows.fnLevelOfStepsOneLevelPerIndentRow.func = some 4 by kernel_rfl).symm.trans hf) |>.symm
      obtain rfl : fn = Tryd.f4 := (Option.some.inj (Tryd.func4.symm.trans hfn)).symm
      exact ⟨by kernel_rfl, fun j t ht => by
        rw [Tryd.params4] at ht
        have hm : t ∈ [3, 3] := by simpa using Array.mem_of_getElem? ht
        have hall : ([3, 3].all fun u => !Tryd.prog.wantsStandIn u) = true := by kernel_rfl
        exact (show Tryd.prog.wantsStandIn t = false by simpa using List.all_eq_true.1 hall t hm)⟩)
    (by kernel_rfl)
end Go.Proofs.Qxb6604427aDoor

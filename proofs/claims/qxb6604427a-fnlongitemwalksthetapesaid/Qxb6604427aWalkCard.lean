/-
  The row of FnLongItemWalksTheTape proved.
-/
import Derived.Test.Qxb6604427aWalkMain
import Derived.Test.Qxb6604427aRows
namespace Go.Proofs.Qxb6604427a
open Go Go.RowKit Go.Deep Go.ChangeShapes Go.WideShapes Go.ChangeAt

set_option maxRecDepth 100000 in
theorem fnLongItemWalksTheTape_lifted (os : Os) (started : os.Started) (H : Type) (enc : TypeId × Value → H) :
    ReturnsInHanded {} Try.checked os 6 .any (Rows.fnLongItemWalksTheTapeSpec.pre6 enc Try.prog Try.f6 Rows.fnLongItemWalksTheTapeRow.domain false) (Rows.fnLongItemWalksTheTapeSpec.post enc Try.prog Try.f6 false true false false) := by
  refine returnsInHanded_of_change (C := Try.checked) own started (by kernel_rfl) Try.func6
    (ChangeSpec.witness6 (enc := enc) (C := Try.checked) false ⟨#[], #[.slice none 0 0], []⟩ 8 (by kernel_rfl) (by kernel_rfl) (by kernel_rfl) (by kernel_rfl)) ?_
  intro W base args ds gs before hval0 hW hcnd _
  have hval : ∀ (j : Nat) t v, Try.f6.params[j]? = some t → args[j]? = some v → Value.okWide Try.prog W .any base t v := hval0
  have hW' := hW
  obtain ⟨p, q, hA0, hV, rfl, hfz, hnd⟩ := hW
  have hA : DataW.TrodAll enc Try.prog W 0 (fun _ => true) true Try.f6.params.toList args.toList ds p := hA0
  rw [Try.params6] at hA hval
  obtain ⟨v0, d0, rfl, rfl, h0⟩ := trodAll_one hA
  obtain ⟨rfl, rfl⟩ := trodVars_none hV
  have hlt := hW'.lt
  obtain ⟨ao, n, cap, rfl⟩ := okWide_slice Try.underlying31 (hval 0 31 v0 rfl rfl)
  obtain ⟨_, f0⟩ := h0
  obtain ⟨ao', n', cap', l, e0, hn, hmn, hI, hsz, hnil0⟩ := items_open f0
  obtain ⟨rfl, rfl, rfl⟩ := Value.slice.inj e0
  clear hA0 hval0
  have key : Calls Try.prog 6 #[.slice ao n cap] W fun e w' => e = .returned (.bool true) ∧ Below W.heap.size W w' := by
    by_cases hx : n = 0
    · subst hx
      exact walks_zero ao cap (fun h => (hnil0 h).2) W
    · rcases hI.lt with h | ⟨b, off, rfl, hb, hI2⟩
      · subst h; simp at hn; omega
      · exact walks_main b off n cap l W hI2 hb hn hsz hmn (by omega)
  refine key.mono fun e W' ⟨he, hB⟩ => ?_
  subst he
  exact ⟨_, rfl, _, _, _, [], p, [], hW', trodAll_mk1 (shut_bool Try.underlying4 _),
    trodAll_mk1 (Below.trod laidOut (by kernel_rfl) (of_decide_eq_true (by kernel_rfl)) ⟨_, f0⟩ hB (fun x hx => hlt x (by simp [hx]))), rfl, hB.frame _, fun h => by cases h⟩

theorem fnLongItemWalksTheTape_holds : Rows.FnLongItemWalksTheTapeSaid :=
  OpenClaim.holds_of_wide 6 Try.f6 rfl rfl rfl rfl rfl rfl rfl ⟨rfl, rfl, rfl, rfl, rfl⟩ rfl rfl rfl rfl rfl (by kernel_rfl) Try.func6 (by kernel_rfl)
    (of_decide_eq_true (by kernel_rfl)) (by unfold Func.isWrapper; first | (rw [if_pos (by decide +kernel)]; kernel_rfl) | (rw [if_neg (by decide +kernel)]; exact ⟨rfl, rfl⟩))
    (fun os started H enc _ => fnLongItemWalksTheTape_lifted os started H enc)
end Go.Proofs.Qxb6604427a

/-
  The row of FnKeyTextAppendKeepsEveryKey proved.
-/
import Derived.Test.Qxb6604427aKeyLaw2
import Derived.Test.Qxb6604427aRows
namespace Go.Proofs.Qxb6604427a
open Go Go.RowKit Go.Deep Go.ChangeShapes Go.WideShapes Go.ChangeAt

set_option maxRecDepth 100000 in
theorem fnKeyTextAppendKeepsEveryKey_lifted (os : Os) (started : os.Started) (H : Type) (enc : TypeId × Value → H) :
    ReturnsInHanded {} Try.checked os 4 .any (Rows.fnKeyTextAppendKeepsEveryKeySpec.pre6 enc Try.prog Try.f4 Rows.fnKeyTextAppendKeepsEveryKeyRow.domain false) (Rows.fnKeyTextAppendKeepsEveryKeySpec.post enc Try.prog Try.f4 false true false false) := by
  refine returnsInHanded_of_change (C := Try.checked) own started (by kernel_rfl) Try.func4
    (ChangeSpec.witness6 (enc := enc) (C := Try.checked) false ⟨#[], #[.slice none 0 0, .slice none 0 0, .int .u8 0, .int .i64 0], []⟩ 8 (by kernel_rfl) (by kernel_rfl) (by kernel_rfl) (by kernel_rfl)) ?_
  intro W base args ds gs before hval0 hW hcnd _
  have hval : ∀ (j : Nat) t v, Try.f4.params[j]? = some t → args[j]? = some v → Value.okWide Try.prog W .any base t v := hval0
  have hW' := hW
  obtain ⟨p, q, hA0, hV, rfl, hfz, hnd⟩ := hW
  have hA : DataW.TrodAll enc Try.prog W 0 (fun _ => true) true Try.f4.params.toList args.toList ds p := hA0
  rw [Try.params4] at hA hval
  obtain ⟨v0, v1, v2, v3, d0, d1, d2, d3, p0, p1, p2, p3, rfl, rfl, rfl, h0, h1, h2, h3⟩ := trodAll_four hA
  obtain ⟨rfl, rfl⟩ := trodVars_none hV
  have hlt := hW'.lt
  obtain ⟨ao, na, ca, rfl⟩ := okWide_slice Try.underlying22 (hval 0 22 v0 rfl rfl)
  obtain ⟨_, f0⟩ := h0
  obtain ⟨_, _, _, A, e0, ha, hma, hIA, hsa, hnil0⟩ := strs_open f0
  obtain ⟨rfl, rfl, rfl⟩ := Value.slice.inj e0
  obtain ⟨bo, nk, cb, rfl⟩ := okWide_slice Try.underlying22 (hval 1 22 v1 rfl rfl)
  obtain ⟨_, f1⟩ := h1
  obtain ⟨_, _, _, B, e1, hb, hmb, hIB, hsb, hnil1⟩ := strs_open f1
  obtain ⟨rfl, rfl, rfl⟩ := Value.slice.inj e1
  obtain ⟨kd, rfl, rfl, rfl, wk⟩ := open_int Try.underlying5 (hval 2 5 v2 rfl rfl) h2
  obtain ⟨n, rfl, rfl, rfl, wn⟩ := open_int Try.underlying3 (hval 3 3 v3 rfl rfl) h3
  clear hA0 hval0
  obtain ⟨k, rfl⟩ := Int.eq_ofNat_of_zero_le (byte_of_wf wk).1
  refine (app_main ao bo ca cb na nk k n A B W hIA hIB ha hb hma hmb hsa hsb hnil0 hnil1).mono fun e W' ⟨he, hB⟩ => ?_
  subst he
  exact ⟨_, rfl, _, _, _, [], p0 ++ (p1 ++ ([] ++ [])), [], hW', trodAll_mk1 (shut_bool Try.underlying4 _),
    trodAll_mk4 (Below.trod laidOut (by kernel_rfl) (of_decide_eq_true (by kernel_rfl)) ⟨_, f0⟩ hB (fun x hx => hlt x (by simp [hx]))) (Below.trod laidOut (by kernel_rfl) (of_decide_eq_true (by kernel_rfl)) ⟨_, f1⟩ hB (fun x hx => hlt x (by simp [hx]))) (shut_int Try.underlying5 wk) (shut_int Try.underlying3 wn), rfl, hB.frame _, fun h => by cases h⟩

theorem fnKeyTextAppendKeepsEveryKey_holds : Rows.FnKeyTextAppendKeepsEveryKeySaid :=
  OpenClaim.holds_of_wide 4 Try.f4 rfl rfl rfl rfl rfl rfl rfl ⟨rfl, rfl, rfl, rfl, rfl⟩ rfl rfl rfl rfl rfl (by kernel_rfl) Try.func4 (by kernel_rfl)
    (of_decide_eq_true (by kernel_rfl)) (by unfold Func.isWrapper; first | (rw [if_pos (by decide +kernel)]; kernel_rfl) | (rw [if_neg (by decide +kernel)]; exact ⟨rfl, rfl⟩))
    (fun os started H enc _ => fnKeyTextAppendKeepsEveryKey_lifted os started H enc)
end Go.Proofs.Qxb6604427a

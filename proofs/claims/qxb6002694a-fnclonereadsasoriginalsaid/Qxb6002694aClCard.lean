/-
  The row of FnCloneReadsAsOriginal proved.
-/
import Derived.Test.Qxb6002694aCloneLaw
import Derived.Test.Qxb6002694aClOpen
namespace Go.Proofs.Qxb6002694a
open Go Go.RowKit Go.Deep Go.ChangeShapes Go.WideShapes Go.ChangeAt

set_option maxRecDepth 100000 in
theorem fnCloneReadsAsOriginal_lifted (os : Os) (started : os.Started) (H : Type) (enc : TypeId × Value → H) :
    ReturnsInHanded {} Try.checked os 3 .any (Rows.fnCloneReadsAsOriginalSpec.pre6 enc Try.prog Try.f3 Rows.fnCloneReadsAsOriginalRow.domain false) (Rows.fnCloneReadsAsOriginalSpec.post enc Try.prog Try.f3 false true false false) := by
  refine returnsInHanded_of_change (C := Try.checked) own started (by kernel_rfl) Try.func3
    (ChangeSpec.witness6 (enc := enc) (C := Try.checked) false ⟨#[], #[.agg #[.string ⟨#[]⟩, .string ⟨#[]⟩, .string ⟨#[]⟩, .string ⟨#[]⟩, .int .u64 0, .string ⟨#[]⟩, .int .u64 0, .string ⟨#[]⟩, .bool false, .pointer none, .slice none 0 0, .pointer none, .pointer none]], []⟩ 8 (by kernel_rfl) (by kernel_rfl) (by kernel_rfl) (by kernel_rfl)) ?_
  intro W base args ds gs before hval0 hW hcnd _
  have hval : ∀ (j : Nat) t v, Try.f3.params[j]? = some t → args[j]? = some v → Value.okWide Try.prog W .any base t v := hval0
  have hW' := hW
  obtain ⟨p, q, hA0, hV, rfl, hfz, hnd⟩ := hW
  have hA : DataW.TrodAll enc Try.prog W 0 (fun _ => true) true Try.f3.params.toList args.toList ds p := hA0
  rw [Try.params3] at hA hval
  obtain ⟨v0, d0, rfl, rfl, h0⟩ := trodAll_one hA
  obtain ⟨rfl, rfl⟩ := trodVars_none hV
  have hlt := hW'.lt
  obtain ⟨cs, rfl, _⟩ := okWide_struct Try.underlying28 (hval 0 28 v0 rfl rfl)
  obtain ⟨_, f0⟩ := h0
  obtain ⟨nm, kd, hs, pa, gen, phs, tr, ad, cl, wp, xp, lp, ra, rn, rc, wo, rd, xo, lo, e0, hHW, hHR, hrn, hnil, hHX, hHL, hLen⟩ := res_open f0
  have e1 : cs = #[.string nm, .string kd, .string hs, .string pa, .int .u64 gen, .string phs, .int .u64 tr, .string ad, .bool cl, .pointer wp, .slice ra rn rc, .pointer xp, .pointer lp] := Array.toList_inj.1 e0
  subst e1
  clear hA0 hval0
  refine (clone_main nm kd hs pa gen phs tr ad cl wp xp lp ra rn rc wo rd xo lo W hHW hHR hrn hnil hHX hHL hLen).mono fun e W' ⟨he, hB⟩ => ?_
  subst he
  exact ⟨_, rfl, _, _, _, [], p, [], hW', trodAll_mk1 (shut_bool Try.underlying4 _),
    trodAll_mk1 (Below.trod laidOut (by kernel_rfl) (of_decide_eq_true (by kernel_rfl)) ⟨_, f0⟩ hB (fun x hx => hlt x (by simp [hx]))), rfl, hB.frame _, fun h => by cases h⟩

theorem fnCloneReadsAsOriginal_holds : Rows.FnCloneReadsAsOriginalSaid :=
  OpenClaim.holds_of_wide 3 Try.f3 rfl rfl rfl rfl rfl rfl rfl ⟨rfl, rfl, rfl, rfl, rfl⟩ rfl rfl rfl rfl rfl (by kernel_rfl) Try.func3 (by kernel_rfl)
    (of_decide_eq_true (by kernel_rfl)) (by unfold Func.isWrapper; first | (rw [if_pos (by decide +kernel)]; kernel_rfl) | (rw [if_neg (by decide +kernel)]; exact ⟨rfl, rfl⟩))
    (fun os started H enc _ => fnCloneReadsAsOriginal_lifted os started H enc)
end Go.Proofs.Qxb6002694a

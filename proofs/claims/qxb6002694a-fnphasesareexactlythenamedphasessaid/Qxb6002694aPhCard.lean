/-
  The row of FnPhasesAreExactlyTheNamedPhases proved.
-/
import Derived.Test.Qxb6002694aPhLaw
import Derived.ProofKit
import Derived.Deep.SlicePairs
namespace Go.Proofs.Qxb6002694a
open Go Go.RowKit Go.Deep Go.ChangeShapes Go.WideShapes Go.ChangeAt

theorem own : ownKnob Try.prog.godebug = none := by kernel_rfl
theorem laidOut : laidOutB Try.prog = true := by kernel_rfl
theorem cells71 : Try.prog.cellsOf 71 = 3 := by kernel_rfl
theorem cells9 : Try.prog.cellsOf 9 = 1 := by kernel_rfl

/-- The transitions. -/
theorem trs_open {H : Type} {enc : TypeId × Value → H} {W : World} {base : Nat} {sp : Nat → Bool} {held : Bool} {fuel : Nat} {v : Value} {x : DataW H × List MemPlace} (h : DataW.trod enc Try.prog W base sp held fuel 49 [v] = some x) :
    ∃ (ao : Option Addr) (n cap : Nat) (l : List Tr), v = .slice ao n cap ∧ l.length = n ∧ n ≤ maxLen ∧ Trs W ao l ∧ (∀ j (h : j < l.length), l[j].1.size ≤ maxLen ∧ l[j].2.1.size ≤ maxLen ∧ l[j].2.2.size ≤ maxLen) ∧ (ao = none → n = 0 ∧ cap = 0) := by
  rcases open_slice Try.underlying49 h with ⟨hv, _⟩ | ⟨a, len, cap, m, fu, D, Pl, hv, _, hl, hm, hmm, _, hx⟩
  · simp at hv
    exact ⟨none, 0, 0, [], hv, rfl, by unfold maxLen; omega, Or.inl rfl, fun j h => absurd h (by simp), fun _ => ⟨rfl, rfl⟩⟩
  · simp at hv
    have hlm : len ≤ m := by rw [hmm]; split <;> omega
    have each : ∀ i, i < len → ∃ t : Tr, W.cell? (a.add (i * 3)) = some (.string t.1) ∧ W.cell? (a.add (i * 3 + 1)) = some (.string t.2.1) ∧ W.cell? (a.add (i * 3 + 2)) = some (.string t.2.2) ∧ t.1.size ≤ maxLen ∧ t.2.1.size ≤ maxLen ∧ t.2.2.size ≤ maxLen := by
      intro i hi
      obtain ⟨cs', h1, h2⟩ := hx i (by omega)
      rw [cells71] at h1
      obtain ⟨_, hlen, hcell⟩ := World.cells?_some h1
      obtain ⟨xs, k, hk, hxy, _, hxl, hf⟩ := DataW.trod_struct Try.underlying71 h2
      match xs, hxl, cs', hlen with
      | [y0, y1, y2], _, [v0, v1, v2], _ =>
        have g0 := hf 0 _ rfl
        have g1 := hf 1 _ rfl
        have g2 := hf 2 _ rfl
        simp [cells9] at g0 g1 g2
        have e0 := hcell 0 (by omega)
        have e1 := hcell 1 (by omega)
        have e2 := hcell 2 (by omega)
        rw [add_add] at e0 e1 e2
        simp at e0 e1 e2
        obtain ⟨s0, q0, _, z0⟩ := DataW.trod_string Try.underlying9 g0
        obtain ⟨s1, q1, _, z1⟩ := DataW.trod_string Try.underlying9 g1
        obtain ⟨s2, q2, _, z2⟩ := DataW.trod_string Try.underlying9 g2
        simp at q0 q1 q2
        subst q0 q1 q2
        exact ⟨(s0, s1, s2), e0, e1, e2, z0, z1, z2⟩
    obtain ⟨T, hT⟩ := choose_lt each
    refine ⟨some a, len, cap, (List.range len).map T, hv, by simp, by omega, ?_, ?_, (fun h => by cases h)⟩
    · by_cases h0 : len = 0
      · subst h0; exact Or.inl rfl
      · right
        have hc0 := (hT 0 (by omega)).1
        have hsp : a.spot = none := by
          rw [show a.add (0 * 3) = a from rfl] at hc0
          exact World.cell?_spot hc0
        obtain ⟨b, off, spot⟩ := a
        simp only at hsp
        subst hsp
        refine ⟨b, off, rfl, fun j hj => ?_⟩
        have hj' : j < len := by simpa using hj
        obtain ⟨c0, c1, c2, _⟩ := hT j hj'
        rw [Addr.add_mid] at c0 c1 c2
        simp only [List.getElem_map, List.getElem_range]
        exact ⟨c0, by rw [show off + j * 3 + 1 = off + (j * 3 + 1) by omega]; exact c1, by rw [show off + j * 3 + 2 = off + (j * 3 + 2) by omega]; exact c2⟩
    · intro j hj
      have hj' : j < len := by simpa using hj
      simp only [List.getElem_map, List.getElem_range]
      exact (hT j hj').2.2.2

set_option maxRecDepth 100000 in
theorem fnPhasesAreExactlyTheNamedPhases_lifted (os : Os) (started : os.Started) (H : Type) (enc : TypeId × Value → H) :
    ReturnsInHanded {} Try.checked os 5 .any (Rows.fnPhasesAreExactlyTheNamedPhasesSpec.pre6 enc Try.prog Try.f5 Rows.fnPhasesAreExactlyTheNamedPhasesRow.domain false) (Rows.fnPhasesAreExactlyTheNamedPhasesSpec.post enc Try.prog Try.f5 false true false false) := by
  refine returnsInHanded_of_change (C := Try.checked) own started (by kernel_rfl) Try.func5
    (ChangeSpec.witness6 (enc := enc) (C := Try.checked) false ⟨#[], #[.slice none 0 0], []⟩ 8 (by kernel_rfl) (by kernel_rfl) (by kernel_rfl) (by kernel_rfl)) ?_
  intro W base args ds gs before hval0 hW hcnd _
  have hval : ∀ (j : Nat) t v, Try.f5.params[j]? = some t → args[j]? = some v → Value.okWide Try.prog W .any base t v := hval0
  have hW' := hW
  obtain ⟨p, q, hA0, hV, rfl, hfz, hnd⟩ := hW
  have hA : DataW.TrodAll enc Try.prog W 0 (fun _ => true) true Try.f5.params.toList args.toList ds p := hA0
  rw [Try.params5] at hA hval
  obtain ⟨v0, d0, rfl, rfl, h0⟩ := trodAll_one hA
  obtain ⟨rfl, rfl⟩ := trodVars_none hV
  have hlt := hW'.lt
  obtain ⟨ao, n, cap, rfl⟩ := okWide_slice Try.underlying49 (hval 0 49 v0 rfl rfl)
  obtain ⟨_, f0⟩ := h0
  obtain ⟨ao', n', cap', l, e0, hn, hmn, hI, hsz, hnil0⟩ := trs_open f0
  obtain ⟨rfl, rfl, rfl⟩ := Value.slice.inj e0
  clear hA0 hval0
  refine (phases_main ao n cap l W hI hn hmn hsz hnil0).mono fun e W' ⟨he, hB⟩ => ?_
  subst he
  exact ⟨_, rfl, _, _, _, [], p, [], hW', trodAll_mk1 (shut_bool Try.underlying4 _),
    trodAll_mk1 (Below.trod laidOut (by kernel_rfl) (of_decide_eq_true (by kernel_rfl)) ⟨_, f0⟩ hB (fun x hx => hlt x (by simp [hx]))), rfl, hB.frame _, fun h => by cases h⟩

theorem fnPhasesAreExactlyTheNamedPhases_holds : Rows.FnPhasesAreExactlyTheNamedPhasesSaid :=
  OpenClaim.holds_of_wide 5 Try.f5 rfl rfl rfl rfl rfl rfl rfl ⟨rfl, rfl, rfl, rfl, rfl⟩ rfl rfl rfl rfl rfl (by kernel_rfl) Try.func5 (by kernel_rfl)
    (of_decide_eq_true (by kernel_rfl)) (by unfold Func.isWrapper; first | (rw [if_pos (by decide +kernel)]; kernel_rfl) | (rw [if_neg (by decide +kernel)]; exact ⟨rfl, rfl⟩))
    (fun os started H enc _ => fnPhasesAreExactlyTheNamedPhases_lifted os started H enc)
end Go.Proofs.Qxb6002694a

/-
  The row of FnLongItemReadsTheItemAt proved.
-/
import Derived.Test.Qxb6604427aOpen
import Derived.Test.Qxb6604427aRows
namespace Go.Proofs.Qxb6604427a
open Go Go.RowKit Go.Deep Go.ChangeShapes Go.WideShapes Go.ChangeAt

/-- The index is none of the items. -/
theorem reads_out (ao : Option Addr) (n cap : Nat) (idx : Int) (ab : Option Addr) (lb cb : Nat) (l : List (Nat × ByteArray)) (w : World)
    (hIn : ItemsIn w ao l) (hn : l.length = n)
    (hm : ∀ j (h : j < l.length), l[j].2.size ≤ maxLen) (hmn : n ≤ maxLen) (hml : lb ≤ maxLen) (hidx : idx < 0 ∨ (n : Int) ≤ idx) :
    Calls Try.prog 5 #[.slice ao n cap, .int .i64 idx, .slice ab lb cb] w fun e w' => e = .returned (.bool true) ∧ Below w.heap.size w w' := by
  have H14 := hide (bytes14 ao ab cap lb cb n idx l w hIn hn hmn hml hm)
  have H16 := hide (kinds16 ao cap n l w hIn hn)
  have H15 := hide (big15 ao cap n lb l w hIn hn)
  unfold maxLen at hmn hml
  clear hm hIn
  go_enter Try.func5, Try.ntmps5
  go_wp2_with fail
  refine (unhide H14).mono ?_
  rintro e w1 ⟨⟨r, rfl, hr⟩, hw⟩
  rw [hw]
  clear hw
  cases r with
  | false =>
    go_wp2_with fail
    go_ret
    exact ⟨rfl, Below.refl _ _⟩
  | true =>
  obtain ⟨hn1, htot, hlb⟩ := hr rfl
  clear hr H14
  have hn1' : (n : Int) ≤ 1048576 := by omega
  by_cases hn2 : (n : Int) ≤ 65536
  case neg =>
    have hd : decide ((65536 : Int) < (n : Int)) = true := by simp; omega
    go_wp2_with fail
    go_ret
    exact ⟨rfl, Below.refl _ _⟩
  have hd : decide ((65536 : Int) < (n : Int)) = false := by simp; omega
  have hd2 : decide ((1048576 : Int) < (lb : Int)) = false := by simp; omega
  go_wp2_with fail
  refine (unhide H15 hn1' (by omega) (by omega) htot).mono ?_
  rintro e w1 ⟨⟨r, rfl, hr⟩, hw⟩
  rw [hw]
  clear hw hr H15
  cases r with
  | true =>
    go_wp2_with fail
    go_ret
    exact ⟨rfl, Below.refl _ _⟩
  | false =>
  go_wp2_with fail
  refine (unhide H16 hn1').mono ?_
  rintro e w1 ⟨⟨r, rfl, hr⟩, hw⟩
  rw [hw]
  clear hw H16
  cases r with
  | false =>
    go_wp2_with fail
    go_ret
    exact ⟨rfl, Below.refl _ _⟩
  | true =>
  rcases hidx with h | h
  · have hq : decide (idx < 0) = true := decide_eq_true h
    go_wp2_with fail
    go_ret
    exact ⟨rfl, Below.refl _ _⟩
  · have hq : decide (idx < 0) = false := by simp; omega
    have hq2 : decide ((n : Int) ≤ idx) = true := decide_eq_true h
    go_wp2_with fail
    go_ret
    exact ⟨rfl, Below.refl _ _⟩

set_option maxRecDepth 100000 in
theorem fnLongItemReadsTheItemAt_lifted (os : Os) (started : os.Started) (H : Type) (enc : TypeId × Value → H) :
    ReturnsInHanded {} Try.checked os 5 .any (Rows.fnLongItemReadsTheItemAtSpec.pre6 enc Try.prog Try.f5 Rows.fnLongItemReadsTheItemAtRow.domain false) (Rows.fnLongItemReadsTheItemAtSpec.post enc Try.prog Try.f5 false true false false) := by
  refine returnsInHanded_of_change (C := Try.checked) own started (by kernel_rfl) Try.func5
    (ChangeSpec.witness6 (enc := enc) (C := Try.checked) false ⟨#[], #[.slice none 0 0, .int .i64 0, .slice none 0 0], []⟩ 8 (by kernel_rfl) (by kernel_rfl) (by kernel_rfl) (by kernel_rfl)) ?_
  intro W base args ds gs before hval0 hW hcnd _
  have hval : ∀ (j : Nat) t v, Try.f5.params[j]? = some t → args[j]? = some v → Value.okWide Try.prog W .any base t v := hval0
  have hW' := hW
  obtain ⟨p, q, hA0, hV, rfl, hfz, hnd⟩ := hW
  have hA : DataW.TrodAll enc Try.prog W 0 (fun _ => true) true Try.f5.params.toList args.toList ds p := hA0
  rw [Try.params5] at hA hval
  obtain ⟨v0, v1, v2, d0, d1, d2, p0, p1, p2, rfl, rfl, rfl, h0, h1, h2⟩ := trodAll_three hA
  obtain ⟨rfl, rfl⟩ := trodVars_none hV
  have hlt := hW'.lt
  obtain ⟨ao, n, cap, rfl⟩ := okWide_slice Try.underlying31 (hval 0 31 v0 rfl rfl)
  obtain ⟨_, f0⟩ := h0
  obtain ⟨ao', n', cap', l, e0, hn, hmn, hI, hsz, hnil0⟩ := items_open f0
  obtain ⟨rfl, rfl, rfl⟩ := Value.slice.inj e0
  obtain ⟨idx, rfl, rfl, rfl, wi⟩ := open_int Try.underlying3 (hval 1 3 v1 rfl rfl) h1
  obtain ⟨ab, lb, cb, rfl⟩ := okWide_slice Try.underlying29 (hval 2 29 v2 rfl rfl)
  obtain ⟨_, f2⟩ := h2
  obtain ⟨ab', lb', cb', L, e2, hL, hml, hH, hnil, hbb⟩ := bytes_open f2
  obtain ⟨rfl, rfl, rfl⟩ := Value.slice.inj e2
  clear hA0 hval0
  have key : Calls Try.prog 5 #[.slice ao n cap, .int .i64 idx, .slice ab lb cb] W fun e w' => e = .returned (.bool true) ∧ Below W.heap.size W w' := by
    by_cases hx : idx < 0 ∨ (n : Int) ≤ idx
    · exact reads_out ao n cap idx ab lb cb l W hI hn hsz hmn hml hx
    · obtain ⟨i, rfl⟩ := Int.eq_ofNat_of_zero_le (show 0 ≤ idx by omega)
      rcases hI.lt with h | ⟨b, off, rfl, hb, hI2⟩
      · subst h; simp at hn; omega
      · exact reads_main b off n cap i ab lb cb l L W hI2 hb hn hH hL hnil hbb hsz hmn hml (by omega)
  refine key.mono fun e W' ⟨he, hB⟩ => ?_
  subst he
  exact ⟨_, rfl, _, _, _, [], p0 ++ ([] ++ p2), [], hW', trodAll_mk1 (shut_bool Try.underlying4 _),
    trodAll_mk3 (Below.trod laidOut (by kernel_rfl) (of_decide_eq_true (by kernel_rfl)) ⟨_, f0⟩ hB (fun x hx => hlt x (by simp [hx]))) (shut_int Try.underlying3 wi) (Below.trod laidOut (by kernel_rfl) (of_decide_eq_true (by kernel_rfl)) ⟨_, f2⟩ hB (fun x hx => hlt x (by simp [hx]))), rfl, hB.frame _, fun h => by cases h⟩

theorem fnLongItemReadsTheItemAt_holds : Rows.FnLongItemReadsTheItemAtSaid :=
  OpenClaim.holds_of_wide 5 Try.f5 rfl rfl rfl rfl rfl rfl rfl ⟨rfl, rfl, rfl, rfl, rfl⟩ rfl rfl rfl rfl rfl (by kernel_rfl) Try.func5 (by kernel_rfl)
    (of_decide_eq_true (by kernel_rfl)) (by unfold Func.isWrapper; first | (rw [if_pos (by decide +kernel)]; kernel_rfl) | (rw [if_neg (by decide +kernel)]; exact ⟨rfl, rfl⟩))
    (fun os started H enc _ => fnLongItemReadsTheItemAt_lifted os started H enc)
end Go.Proofs.Qxb6604427a

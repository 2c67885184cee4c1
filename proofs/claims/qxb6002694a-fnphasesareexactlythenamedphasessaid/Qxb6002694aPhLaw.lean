/-
  FnPhasesAreExactlyTheNamedPhases (5).
-/
import Derived.Test.Qxb6002694aPhases
namespace Go.Proofs.Qxb6002694a
open Go Go.RowKit
set_option maxRecDepth 100000
attribute [local go_sem ↓] Go.wp_at_zero Go.wp_at_succ

theorem Trs.drewN {w : World} {ao : Option Addr} {l : List Tr} (h : Trs w ao l) (n : Nat) : Trs (w.drewN n) ao l := h
theorem Strs.drewN {w : World} {v : Value} {l : List ByteArray} (h : Strs w v l) (n : Nat) : Strs (w.drewN n) v l := h

set_option maxHeartbeats 4000000 in
theorem phases_main (ao : Option Addr) (n cap : Nat) (l : List Tr) (w : World) (hI : Trs w ao l) (hn : l.length = n) (hmn : n ≤ maxLen) (hs : ∀ j (h : j < l.length), l[j].1.size ≤ maxLen ∧ l[j].2.1.size ≤ maxLen ∧ l[j].2.2.size ≤ maxLen) (hnil : ao = none → n = 0 ∧ cap = 0) :
    Calls Try.prog 5 #[.slice ao n cap] w fun e w' => e = .returned (.bool true) ∧ Below w.heap.size w w' := by
  have H14 := hide (bytes14 ao cap n l w hI hn hmn hs)
  have H15 := hide (size15 ao cap n l w hI hn hs)
  have HI := hide hI
  have HNIL := hide hnil
  clear hI hs hnil
  unfold maxLen at hmn
  go_enter Try.func5, Try.ntmps5
  go_wp2_with fail
  refine (unhide H14).mono ?_
  rintro e w1 ⟨⟨r, rfl, hr⟩, hw⟩
  rw [hw]
  clear hw hr H14
  cases r with
  | false =>
    go_wp2_with fail
    go_ret
    exact ⟨rfl, Below.refl _ _⟩
  | true =>
  go_wp2_with fail
  refine (unhide H15).mono ?_
  rintro e w1 ⟨⟨r, rfl, hr⟩, hw⟩
  rw [hw]
  clear hw H15
  cases r with
  | false =>
    go_wp2_with fail
    go_ret
    exact ⟨rfl, Below.refl _ _⟩
  | true =>
  have hn1 := hr rfl
  clear hr
  go_wp2_with fail
  refine (clone16 ao n cap l w HI.out HNIL.out hn (by omega)).mono ?_
  rintro e w1 ⟨ao1, rfl, hI1, hnil1, hB1⟩
  have HI1 := hide hI1
  have HN1 := hide hnil1
  clear hI1 hnil1 HI HNIL
  go_wp2_with fail
  refine (toReg18 ao1 n n l w1 HI1.out HN1.out hn (by omega)).mono ?_
  rintro e w2 ⟨ao2, rfl, hI2, hnil2, hB2⟩
  have HI2 := hide hI2
  have HI12 := hide (HI1.out.below hB2 (Nat.le_refl _))
  clear hI2 hnil2 HI1 HN1
  go_wp2_with fail
  refine (phases17 ao2 n n l w2 HI2.out hn (by omega)).mono ?_
  rintro e w3 ⟨v, rfl, hown, hB3⟩
  have HI3 := hide (HI12.out.below hB3 (Nat.le_refl _))
  have hBw : Below w.heap.size w w3 := (hB1.trans (hB2.mono hB1.size)).trans (hB3.mono (Nat.le_trans hB1.size hB2.size))
  obtain ⟨L, hown, hlen, HM, HA, HNE⟩ : ∃ L : List ByteArray, w3.ownsRow w2.heap.size 9 1 v L.length (sc L) ∧ L.length ≤ 2 * n ∧ Hid (∀ x, x ∈ L → x ≠ noPhase ∧ ∃ j, j < 2 * n ∧ ep l j = x) ∧ Hid (∀ j, j < 2 * n → ep l j ≠ noPhase → ep l j ∈ L) ∧ Hid (∀ i j (hi : i < L.length) (hj : j < i), L[j]'(by omega) ≠ L[i]) :=
    ⟨_, hown, ph_len l (2 * n), ph_mem l (2 * n), ph_all l (2 * n), ph_ne l (2 * n)⟩
  have HS := hide (own_strs hown)
  obtain ⟨av, cv, rfl⟩ := own_shape hown
  clear hown hB1 hB2 hB3 HI2 HI12
  go_wp2_with fail
  go_loopw [4] (fun i wr => ∃ (j nq : Nat), j ≤ L.length ∧ i = .int .i64 j ∧ wr = w3.drewN nq) (fun i _ => L.length - (intOf i).toNat)
  case atStart => exact ⟨0, 0, Nat.zero_le _, rfl, rfl⟩
  case round =>
    obtain ⟨j, nq, hj, rfl, hwr⟩ := hrel
    subst hwr
    by_cases hlt : (j : Int) < (L.length : Int)
    · have hj' : j < L.length := by omega
      obtain ⟨g, o, hv, hI⟩ : ∃ g o, av = some ⟨g, o, none⟩ ∧ ∀ j (h : j < L.length), w3.cell? ⟨g, o + j, none⟩ = some (.string L[j]) := by
        rcases HS.out with ⟨h0, _⟩ | ⟨g, o, c', hv, hI⟩
        · subst h0; simp at hj'
        · simp only [Value.slice.injEq] at hv
          exact ⟨g, o, hv.1, hI⟩
      subst hv
      have cx := hI j hj'
      obtain ⟨hx1, k, hk, hx2⟩ := HM.out L[j] (List.getElem_mem hj')
      have C19 := hide (first19 ao1 n n k l (w3.drewN nq) (HI3.out.drewN nq) hn (by omega) (by omega))
      rw [hx2] at C19
      have HNJ := hide (fun i hi => HNE.out j i hj' hi)
      have HIJ := hide hI
      clear hI hx2
      generalize L[j] = x at *
      have hd : ¬ x.toList = [110, 111, 110, 101] := fun h => hx1 ((noPhase_iff x).1 h)
      have hd2 : (x.toList == [110, 111, 110, 101]) = false := beq_eq_false_iff_ne.2 hd
      clear hx1
      go_wp2_with fail
      refine (unhide C19).mono ?_
      rintro e w4 ⟨⟨r, rfl, hr, hr1, hr2⟩, hw4⟩
      rw [hw4]
      have hr0 : ¬ r < 0 := by have := hr.2 trivial; omega
      clear hw4 C19 hr
      go_wp2_with fail
      go_loopw [5] (fun i wr => ∃ (q nq : Nat), q ≤ j ∧ i = .int .i64 q ∧ wr = w3.drewN nq) (fun i _ => j - (intOf i).toNat)
      case atStart => exact ⟨0, nq, Nat.zero_le _, rfl, rfl⟩
      case round =>
        obtain ⟨q, nq2, hq, rfl, hwr⟩ := hrel
        subst hwr
        by_cases hlt2 : (q : Int) < (j : Int)
        · have cy := HIJ.out q (by omega)
          have hne := HNJ.out q (by omega)
          generalize L[q]'(by omega) = y at *
          have hd3 : (y.toList == x.toList) = false := (Lib.bytes_beq_false_iff _ _).2 hne
          clear hne
          have hqL : (q : Int) < (L.length : Int) := by omega
          go_wp2_with fail
          go_quiet (fail)
          go_wp2_with fail
          go_roundw
          case rel => exact ⟨q + 1, _, by omega, by go_num, by first | rfl | rw [World.drewN_drewN]⟩
          case measure => simp [intOf]; omega
        · go_wp2_with fail
          go_roundw
          case rel => exact ⟨j + 1, nq2, by omega, by go_num, rfl⟩
          case measure => simp [intOf]; omega
    · go_wp2_with fail
      go_loop [6] (fun i => ∃ k : Nat, k ≤ 2 * n ∧ i = .int .i64 k) (fun i => 2 * n - (intOf i).toNat)
      case atStart => exact ⟨0, Nat.zero_le _, rfl⟩
      case round =>
        obtain ⟨k, hk, rfl⟩ := hrel
        by_cases hlt2 : (k : Int) < 2 * (n : Int)
        · have C20 := hide (endpoint20 ao1 n n k l (w3.drewN nq) (HI3.out.drewN nq) hn hlt2 (by omega))
          have HX := hide (HA.out k (by omega))
          generalize ep l k = x at *
          have C21 := hide (contains21 (.slice av L.length cv) L x (w3.drewN nq) (HS.out.drewN nq) (by omega))
          go_wp2_with fail
          refine (unhide C20).mono ?_
          rintro e w4 ⟨rfl, hw4⟩
          rw [hw4]
          clear hw4 C20
          by_cases hx : x = noPhase
          · have hd : x.toList = [110, 111, 110, 101] := (noPhase_iff x).2 hx
            clear hx
            go_wp2_with fail
            go_round
            case rel => exact ⟨k + 1, by omega, by go_num⟩
            case measure => simp [intOf]; omega
          · have hd : ¬ x.toList = [110, 111, 110, 101] := fun h => hx ((noPhase_iff x).1 h)
            have hd2 : (x.toList == [110, 111, 110, 101]) = false := beq_eq_false_iff_ne.2 hd
            have hmem := HX.out hx
            clear hx
            go_wp2_with fail
            refine (unhide C21).mono ?_
            rintro e w4 ⟨⟨r, rfl, hr⟩, hw4⟩
            rw [hw4]
            obtain rfl := hr.2 hmem
            clear hw4 C21 hr hmem
            go_wp2_with fail
            go_round
            case rel => exact ⟨k + 1, by omega, by go_num⟩
            case measure => simp [intOf]; omega
        · go_wp2_with fail
          go_ret
          exact ⟨rfl, below_drewN hBw _⟩
end Go.Proofs.Qxb6002694a

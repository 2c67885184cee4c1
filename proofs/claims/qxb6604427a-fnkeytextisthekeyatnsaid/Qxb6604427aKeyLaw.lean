/-
  FnKeyTextIsTheKeyAtN (3).
-/
import Derived.Test.Qxb6604427aKeyMake
namespace Go.Proofs.Qxb6604427a
open Go Go.RowKit
set_option maxRecDepth 100000
attribute [local go_sem ↓] Go.wp_at_zero Go.wp_at_succ

theorem KeyStep.cell {wr w' : World} {K : Nat} (h : KeyStep wr w' K) {a : Addr} {v : Value} (hc : wr.cell? a = some v) (hb : a.block < K) : w'.cell? a = some v := (World.cell?_of_block (h.block _ hb)).trans hc

set_option maxHeartbeats 4000000 in
theorem key_main (ao bo : Option Addr) (ca cb na nk : Nat) (k : Nat) (n : Int) (A B : List ByteArray) (w : World) (hA : StrsIn w ao A) (hB : StrsIn w bo B) (ha : A.length = na) (hb : B.length = nk) (hma : na ≤ maxLen) (hmb : nk ≤ maxLen)
    (hsa : ∀ j (h : j < A.length), A[j].size ≤ maxLen) (hsb : ∀ j (h : j < B.length), B[j].size ≤ maxLen) (hna : ao = none → na = 0 ∧ ca = 0) (hnb : bo = none → nk = 0 ∧ cb = 0) :
    Calls Try.prog 3 #[.slice ao na ca, .slice bo nk cb, .int .u8 k, .int .i64 n] w fun e w' => e = .returned (.bool true) ∧ Below w.heap.size w w' := by
  have H7 := hide (bytes7 ao bo ca cb na nk k n A B w hA hB ha hb hma hmb hsa hsb)
  have H8 := hide (big8 ao bo ca cb na nk A B w hA hB ha hb)
  have HA := hide hA
  have HB := hide hB
  have HNA := hide hna
  have HNB := hide hnb
  unfold maxLen at hma hmb
  clear hA hB hsa hsb hna hnb
  go_enter Try.func3, Try.ntmps3
  go_wp2_with fail
  refine (unhide H7).mono ?_
  rintro e w1 ⟨⟨r, rfl, hr⟩, hw⟩
  rw [hw]
  clear hw
  cases r with
  | false =>
    go_wp2_with fail
    go_ret
    exact ⟨rfl, Below.refl _ _⟩
  | true =>
  obtain ⟨hn1, hn2, htot⟩ := hr rfl
  clear hr H7
  by_cases h1 : (na : Int) ≤ 65536
  case neg =>
    have hd : decide ((65536 : Int) < (na : Int)) = true := by simp; omega
    go_wp2_with fail
    go_ret
    exact ⟨rfl, Below.refl _ _⟩
  have hd1 : decide ((65536 : Int) < (na : Int)) = false := by simp; omega
  by_cases h2 : (nk : Int) ≤ 65536
  case neg =>
    have hd : decide ((65536 : Int) < (nk : Int)) = true := by simp; omega
    go_wp2_with fail
    go_ret
    exact ⟨rfl, Below.refl _ _⟩
  have hd2 : decide ((65536 : Int) < (nk : Int)) = false := by simp; omega
  go_wp2_with fail
  refine (unhide H8 (by omega) (by omega) htot).mono ?_
  rintro e w1 ⟨⟨r, rfl, hr⟩, hw⟩
  rw [hw]
  clear hw hr H8
  cases r with
  | true =>
    go_wp2_with fail
    go_ret
    exact ⟨rfl, Below.refl _ _⟩
  | false =>
  by_cases hk : (k : Int) ≤ 15
  case neg =>
    have hd : decide ((15 : Int) < (k : Int)) = true := by simp; omega
    go_wp2_with fail
    go_ret
    exact ⟨rfl, Below.refl _ _⟩
  have hd3 : decide ((15 : Int) < (k : Int)) = false := by simp; omega
  by_cases h4 : n < 0
  · have hd : decide (n < 0) = true := decide_eq_true h4
    go_wp2_with fail
    go_ret
    exact ⟨rfl, Below.refl _ _⟩
  have hd4 : decide (n < 0) = false := decide_eq_false h4
  by_cases h5 : (nk : Int) ≤ n
  · have hd : decide ((nk : Int) ≤ n) = true := decide_eq_true h5
    go_wp2_with fail
    go_ret
    exact ⟨rfl, Below.refl _ _⟩
  obtain ⟨m, rfl⟩ := Int.eq_ofNat_of_zero_le (show 0 ≤ n by omega)
  have hd5 : decide ((nk : Int) ≤ (m : Int)) = false := decide_eq_false h5
  go_wp2_with fail
  refine (clone9 ao na ca A w HA.out HNA.out ha (by omega)).mono ?_
  rintro e w1 ⟨ao', rfl, hA1, hB1⟩
  have HA1 := hide hA1
  clear hA1
  go_wp2_with fail
  refine (clone9 bo nk cb B w1 (HB.out.below hB1 (Nat.le_refl _)) HNB.out hb (by omega)).mono ?_
  rintro e w2 ⟨bo', rfl, hB2, hBl2⟩
  have HA2 := hide (HA1.out.below hBl2 (Nat.le_refl _))
  have HB2 := hide hB2
  have hBw : Below w.heap.size w w2 := hB1.trans (hBl2.mono hB1.size)
  clear hB2 HA1 HA HB hB1 hBl2
  go_wp2_with fail
  refine (build10 ao' bo' na nk na nk k A B w2 HA2.out HB2.out ha hb h1 h2 (by omega) htot (by omega)).mono ?_
  rintro e w3 ⟨K, gb, c, gs, N, SG, PB, TG, S0, ns, cs, rfl, hK, hB3, hK2, hns, hN, hNl⟩
  have hBw3 : Below w.heap.size w w3 := hBw.trans (hB3.mono hBw.size)
  have hml : na + m < (keysOf k A B).length := by rw [keysOf_len]; omega
  have C12 := hide (keyText12 hK.drew hN hNl m (by omega) (by rw [keysOf_len, ha, hb]) (fun j h => by rw [keysOf_kind]; omega) hns (by omega) hml)
  have hkm : (keysOf k A B)[na + m].2 = B[m]'(by omega) := by
    have h := keysOf_right k A B m (by omega) (by omega)
    simp only [ha] at h
    rw [h]
  rw [hkm] at C12
  obtain ⟨g, o, rfl, hg, hI⟩ : ∃ g o, bo' = some ⟨g, o, none⟩ ∧ g < w2.heap.size ∧ ∀ j (h : j < B.length), w2.cell? ⟨g, o + j, none⟩ = some (.string B[j]) := by
    rcases HB2.out.lt with h | h
    · subst h; simp at hb; omega
    · exact h
  have ck : w3.cell? ⟨g, o + m, none⟩ = some (.string (B[m]'(by omega))) := (hB3.cell (p := ⟨g, o + m, none⟩) hg).trans (hI m (by omega))
  have hgK : g < K := by omega
  have hKw : w.heap.size ≤ K := Nat.le_trans hBw.size hK2
  have hsz : (B[m]'(by omega)).size ≤ 1048576 := by
    have h1 := stot_snoc B m (by omega)
    have h2 := stot_take B (m + 1)
    omega
  generalize B[m]'(by omega) = s at *
  clear hI HA2 HB2 hB3 hkm hml hNl hK hBw HNA HNB
  go_wp2_with fail
  go_region_held3 (fun w' => w'.cell? ⟨g, o + m, none⟩ = some (.string s)) (first | exact ck | exact hS3.drew.cell ck hgK)
    (first | (go_at_call 12; go_must (refine (unhide C12).mono ?_; rintro e w4 ⟨v4, vs4, rfl, ⟨av, cv, rfl, hH4, _⟩, hK4, hS3⟩; have HH4 := hide hH4; clear hH4 hK4)) | (go_at_call 11; go_must (refine (sameText_any _ s w4 HH4.out (by omega)).mono ?_; rintro e w5 ⟨rfl, nq, rfl⟩)))
  go_wp2_with fail
  go_ret
  exact ⟨rfl, below_drewN (hS3.drew.below hBw3 hKw) _⟩
end Go.Proofs.Qxb6604427a

/-
  FnKeyTextAppendKeepsEveryKey (4).
-/
import Derived.Test.Qxb6604427aKeyAppend
namespace Go.Proofs.Qxb6604427a
open Go Go.RowKit
set_option maxRecDepth 100000
attribute [local go_sem ↓] Go.wp_at_zero Go.wp_at_succ

theorem KeyStep.cellA {wr w' : World} {K : Nat} (h : KeyStep wr w' K) {a : Addr} {v : Value} (hc : wr.cell? a = some v) (hb : a.block < K) : w'.cell? a = some v := (World.cell?_of_block (h.block _ hb)).trans hc

theorem KeysAt.grownN {wr w' : World} {K gb c : Nat} {gs : Nat → Nat} {N : Nat} {l : List (Nat × ByteArray)} {a nk SG PB TG S0 ns cs : Nat} {vs : Value} (h : KeysAt wr K gb c gs N l a nk SG PB TG S0 ns cs vs) (hg : wr.grownBy w' none) : KeysAt w' K gb c gs N l a nk SG PB TG S0 ns cs vs := by
  obtain ⟨lb, X, hX⟩ := h.own
  refine ⟨h.T.grownN hg, hg.cell h.sets (by simp), hg.cell h.start (by simp), hg.cell h.first (by simp), fun hnk => ?_, hg.cell h.buf (by simp), ?_, ⟨lb, X, hX.kept hg (by cases vs.ownBlock <;> simp)⟩, h.ownLt, h.hgb, h.hgs, h.hsg, h.hpb, h.htg⟩
  · obtain ⟨s1, s2, s3⟩ := h.stops hnk
    exact ⟨hg.cell s1 (by simp), hg.cell s2 (by simp), fun i h0 hi => ⟨(s3 i h0 hi).1, hg.cell (s3 i h0 hi).2 (by simp)⟩⟩
  · exact (World.frozen?_of_block (a := ⟨K, 6, none⟩) (hg.block K (World.block_lt_of_cell? wr _ h.buf) (by simp))).trans h.fz

theorem src35 (w : World) : Src Try.prog 1 29 (.slice (some ⟨w.heap.size, 0, none⟩) 1 1) 1 (bc [35]) (w.alloc (.cells #[.int .u8 35] 5)) := src_one w 35

set_option maxHeartbeats 4000000 in
theorem app_main (ao bo : Option Addr) (ca cb na nk : Nat) (k : Nat) (n : Int) (A B : List ByteArray) (w : World) (hA : StrsIn w ao A) (hB : StrsIn w bo B) (ha : A.length = na) (hb : B.length = nk) (hma : na ≤ maxLen) (hmb : nk ≤ maxLen)
    (hsa : ∀ j (h : j < A.length), A[j].size ≤ maxLen) (hsb : ∀ j (h : j < B.length), B[j].size ≤ maxLen) (hna : ao = none → na = 0 ∧ ca = 0) (hnb : bo = none → nk = 0 ∧ cb = 0) :
    Calls Try.prog 4 #[.slice ao na ca, .slice bo nk cb, .int .u8 k, .int .i64 n] w fun e w' => e = .returned (.bool true) ∧ Below w.heap.size w w' := by
  have H7 := hide (bytes13 ao bo ca cb na nk k n A B w hA hB ha hb hma hmb hsa hsb)
  have H8 := hide (big8 ao bo ca cb na nk A B w hA hB ha hb)
  have HA := hide hA
  have HB := hide hB
  have HNA := hide hna
  have HNB := hide hnb
  unfold maxLen at hma hmb
  clear hA hB hsa hsb hna hnb
  go_enter Try.func4, Try.ntmps4
  go_wp2_with fail
  refine (unhide H7).mono ?_
  rintro e w1 ⟨⟨r, rfl, hr⟩, hw⟩
  rw [hw]
  clear hw
  cases r with
  | false =>
    go_wp2_with fail
    go_ret
    exact ⟨rfl, Below.refl _ _⟩
  | true =>
  obtain ⟨hn1, hn2, htot⟩ := hr rfl
  clear hr H7
  by_cases h1 : (na : Int) ≤ 65536
  case neg =>
    have hd : decide ((65536 : Int) < (na : Int)) = true := by simp; omega
    go_wp2_with fail
    go_ret
    exact ⟨rfl, Below.refl _ _⟩
  have hd1 : decide ((65536 : Int) < (na : Int)) = false := by simp; omega
  by_cases h2 : (nk : Int) ≤ 65536
  case neg =>
    have hd : decide ((65536 : Int) < (nk : Int)) = true := by simp; omega
    go_wp2_with fail
    go_ret
    exact ⟨rfl, Below.refl _ _⟩
  have hd2 : decide ((65536 : Int) < (nk : Int)) = false := by simp; omega
  go_wp2_with fail
  refine (unhide H8 (by omega) (by omega) htot).mono ?_
  rintro e w1 ⟨⟨r, rfl, hr⟩, hw⟩
  rw [hw]
  clear hw hr H8
  cases r with
  | true =>
    go_wp2_with fail
    go_ret
    exact ⟨rfl, Below.refl _ _⟩
  | false =>
  by_cases hk : (k : Int) ≤ 15
  case neg =>
    have hd : decide ((15 : Int) < (k : Int)) = true := by simp; omega
    go_wp2_with fail
    go_ret
    exact ⟨rfl, Below.refl _ _⟩
  have hd3 : decide ((15 : Int) < (k : Int)) = false := by simp; omega
  by_cases h4 : n < 0
  · have hd : decide (n < 0) = true := decide_eq_true h4
    go_wp2_with fail
    go_ret
    exact ⟨rfl, Below.refl _ _⟩
  have hd4 : decide (n < 0) = false := decide_eq_false h4
  by_cases h5 : (nk : Int) ≤ n
  · have hd : decide ((nk : Int) ≤ n) = true := decide_eq_true h5
    go_wp2_with fail
    go_ret
    exact ⟨rfl, Below.refl _ _⟩
  obtain ⟨m, rfl⟩ := Int.eq_ofNat_of_zero_le (show 0 ≤ n by omega)
  have hd5 : decide ((nk : Int) ≤ (m : Int)) = false := decide_eq_false h5
  go_wp2_with fail
  refine (clone9 ao na ca A w HA.out HNA.out ha (by omega)).mono ?_
  rintro e w1 ⟨ao', rfl, hA1, hB1⟩
  have HA1 := hide hA1
  clear hA1
  go_wp2_with fail
  refine (clone9 bo nk cb B w1 (HB.out.below hB1 (Nat.le_refl _)) HNB.out hb (by omega)).mono ?_
  rintro e w2 ⟨bo', rfl, hB2, hBl2⟩
  have HA2 := hide (HA1.out.below hBl2 (Nat.le_refl _))
  have HB2 := hide hB2
  have hBw : Below w.heap.size w w2 := hB1.trans (hBl2.mono hB1.size)
  clear hB2 HA1 HA HB hB1 hBl2
  go_wp2_with fail
  refine (build10 ao' bo' na nk na nk k A B w2 HA2.out HB2.out ha hb h1 h2 (by omega) htot (by omega)).mono ?_
  rintro e w3 ⟨K, gb, c, gs, N, SG, PB, TG, S0, ns, cs, rfl, hK, hB3, hK2, hns, hN, hNl⟩
  have hBw3 : Below w.heap.size w w3 := hBw.trans (hB3.mono hBw.size)
  have HKB := hide (fun j (hj : j < B.length) => show (keysOf k A B)[na + j]'(by rw [keysOf_len]; omega) = (k, B[j]) by
    have h := keysOf_right k A B j hj (by rw [keysOf_len]; omega)
    simp only [ha] at h
    exact h)
  have HC := hide (fun (W : World) (vs : Value) (hW : KeysAt W K gb c gs N (keysOf k A B) na nk SG PB TG S0 ns cs vs) j (hj : j < B.length) => show Calls Try.prog 12 #[.pointer (some ⟨K, 0, none⟩), .int .i64 (j : Int)] W fun e w' => ∃ v vs', e = .returned v ∧ TextSays w' v (bs B[j]) vs ∧ KeysAt w' K gb c gs N (keysOf k A B) na nk SG PB TG S0 ns cs vs' ∧ KeyStep W w' K by
    have h := keyText12 hW hN hNl j (by omega) (by rw [keysOf_len, ha, hb]) (fun j h => by rw [keysOf_kind]; omega) hns (by omega) (by rw [keysOf_len]; omega)
    rw [HKB.out j hj] at h
    exact h)
  obtain ⟨g, o, rfl, hg, hI⟩ : ∃ g o, bo' = some ⟨g, o, none⟩ ∧ g < w2.heap.size ∧ ∀ j (h : j < B.length), w2.cell? ⟨g, o + j, none⟩ = some (.string B[j]) := by
    rcases HB2.out.lt with h | h
    · subst h; simp at hb; omega
    · exact h
  have HCK := hide (show ∀ j (hj : j < B.length), w3.cell? ⟨g, o + j, none⟩ = some (.string B[j]) from fun j hj => (hB3.cell (p := ⟨g, o + j, none⟩) hg).trans (hI j hj))
  have hgK : g < K := by omega
  have hKw : w.heap.size ≤ K := Nat.le_trans hBw.size hK2
  have HSZ := hide (show ∀ j (hj : j < B.length), B[j].size ≤ 1048576 from fun j hj => by
    have h1 := stot_snoc B j hj
    have h2 := stot_take B (j + 1)
    omega)
  have HK3 := hide hK
  have hm : m < B.length := by omega
  have C12 := hide (HC.out w3 _ hK m hm)
  have ck := HCK.out m hm
  have hsz := HSZ.out m hm
  clear hI HA2 HB2 hB3 hNl hK hBw HNA HNB HKB
  generalize hs : B[m] = s at *
  clear hs
  go_wp2_with fail
  refine (unhide C12).mono ?_
  rintro e w4 ⟨v4, vs4, rfl, ⟨av, cv, rfl, hH4, hcv⟩, hK4, hS4⟩
  obtain rfl : cv = (bs s).length := hcv rfl
  have ck4 := hS4.cellA ck (show g < K from hgK)
  have HH4 := hide hH4
  have HK4 := hide hK4
  have HS4 := hide hS4
  clear hH4 hK4 hS4 C12 ck hcv
  go_wp2_with fail
  refine (sameText_any _ s w4 HH4.out (by omega)).mono ?_
  rintro e w5 ⟨rfl, nq, rfl⟩
  have HHA := hide ((HH4.out.drewN nq).alloc (.cells #[.int .u8 35] 5))
  have HBA := hide (show Below w.heap.size w ((w4.drewN nq).alloc (.cells #[.int .u8 35] 5)) from by
    have h := HS4.out.below hBw3 hKw
    exact (below_drewN h nq).alloc (below_drewN h nq).size _)
  have HKA := hide ((HK4.out.drewN nq).grownN (World.grownBy_alloc _ (.cells #[.int .u8 35] 5) none))
  have HCA := hide (show ∀ j (hj : j < B.length), ((w4.drewN nq).alloc (.cells #[.int .u8 35] 5)).cell? ⟨g, o + j, none⟩ = some (.string B[j]) from fun j hj => cell_alloc (HS4.out.cellA (HCK.out j hj) hgK) _)
  clear HH4 HK4 HS4 HCK HK3 hBw3
  rw [bs_len] at HHA ⊢
  have hne1 : (((s.size + 1 : Nat) : Int) != (s.size : Int) + 1) = false := by simp
  have hne1' : (((s.size : Int) + 1) != (s.size : Int) + 1) = false := by simp
  go_wp2_with (at_builtin; go_must (refine wpList_append_full _ rfl (.tmp 57) (.tmp 58) rfl av (bs s) s.size (bs_len s) rfl HHA.out _ 1 (bc [35]) rfl (src35 (w4.drewN nq)) (by omega) (by omega) ?_; intro v6 w6 hown6 hg6 hl6; obtain ⟨c6, rfl⟩ := own_some hown6 hl6; have ce : w6.cell? ⟨w4.heap.size + 1, s.size, none⟩ = some (.int .u8 35) := (by have h := hown6.cellAt s.size (by omega); simpa [bc, bs_len] using h); have ck6 : w6.cell? ⟨g, o + m, none⟩ = some (.string s) := hg6.cell (cell_alloc ck4 _) (by simp)))
  have HK6 := hide (HKA.out.grownN hg6)
  have HB6 := hide (HBA.out.grown hg6 HBA.out.size (fun k hk => by cases hk))
  have HC6 := hide (show ∀ j (hj : j < B.length), w6.cell? ⟨g, o + j, none⟩ = some (.string B[j]) from fun j hj => hg6.cell (HCA.out j hj) (by simp))
  clear hown6 hg6 hl6 ce ck6 HKA HBA HCA HHA ck4 hsz hne1 hne1'
  go_loopw [12] (fun i wr => ∃ (j : Nat) (vs : Value), j ≤ nk ∧ i = .int .i64 j ∧ Hid (KeysAt wr K gb c gs N (keysOf k A B) na nk SG PB TG S0 ns cs vs) ∧ Hid (∀ j (hj : j < B.length), wr.cell? ⟨g, o + j, none⟩ = some (.string B[j])) ∧ Below w.heap.size w wr) (fun i _ => nk - (intOf i).toNat)
  case atStart => exact ⟨0, vs4, Nat.zero_le _, rfl, HK6, HC6, HB6.out⟩
  case round =>
    obtain ⟨j, vs, hj, rfl, HKr, HCr, hBr⟩ := hrel
    clear HK6 HB6 HC6
    by_cases hlt : (j : Int) < (nk : Int)
    · have hj' : j < B.length := by omega
      have C12 := hide (HC.out wr.drew _ HKr.out.drew j hj')
      have ck := HCr.out j hj'
      have hsz := HSZ.out j hj'
      generalize hs : B[j] = t at *
      clear hs
      have h0j : (0 : Int) ≤ (j : Int) := by omega
      have HBr := hide hBr
      clear hBr
      go_wp2_with fail
      go_region_held3 (fun w' => w'.cell? ⟨g, o + j, none⟩ = some (.string t)) (first | exact ck | exact hS3.drew.cellA ck hgK)
        (first | (go_at_call 12; go_must (refine (unhide C12).mono ?_; rintro e w7 ⟨v7, vs7, rfl, ⟨av7, cv7, rfl, hH7, _⟩, hK7, hS3⟩; have HH7 := hide hH7; have HK7 := hide hK7; clear hH7 hK7)) | (go_at_call 11; go_must (refine (sameText_any _ t w7 HH7.out (by omega)).mono ?_; rintro e w8 ⟨rfl, nq8, rfl⟩)))
      have HS3 := hide hS3
      clear hS3
      go_wp2_with fail
      go_roundw
      case rel => exact ⟨j + 1, vs7, by omega, by go_num, HK7.out.drewN nq8, fun q hq => HS3.out.drew.cellA (HCr.out q hq) hgK, below_drewN (HS3.out.drew.below HBr.out hKw) _⟩
      case measure => simp [intOf]; omega
    · go_wp2_with fail
      go_ret
      exact ⟨rfl, hBr⟩
end Go.Proofs.Qxb6604427a

/-
  FnLongItemWalksTheTape (6): the main walk.
-/
import Derived.Test.Qxb6604427aWalk
namespace Go.Proofs.Qxb6604427a
open Go Go.RowKit
set_option maxRecDepth 100000

set_option maxHeartbeats 4000000 in
theorem walks_main (b off n cap : Nat) (l : List (Nat × ByteArray)) (w : World)
    (hI : ∀ j (h : j < l.length), w.cell? ⟨b, off + j * 2, none⟩ = some (.int .u8 (l[j].1 : Int)) ∧ w.cell? ⟨b, off + j * 2 + 1, none⟩ = some (.string l[j].2)) (hb : b < w.heap.size) (hn : l.length = n)
    (hm : ∀ j (h : j < l.length), l[j].2.size ≤ maxLen) (hmn : n ≤ maxLen) (hn0 : 0 < n) :
    Calls Try.prog 6 #[.slice (some ⟨b, off, none⟩) n cap] w fun e w' => e = .returned (.bool true) ∧ Below w.heap.size w w' := by
  have hIn : ItemsIn w (some ⟨b, off, none⟩) l := Or.inr ⟨b, off, rfl, hI⟩
  have H24 := hide (bytes24 (some ⟨b, off, none⟩) cap n l w hIn hn hmn hm)
  have H16 := hide (kinds16 (some ⟨b, off, none⟩) cap n l w hIn hn)
  have H15 := hide (big15 (some ⟨b, off, none⟩) cap n 0 l w hIn hn)
  have HIN := hide hI
  unfold maxLen at hmn
  clear hI hm hIn
  go_enter Try.func6, Try.ntmps6
  go_wp2_with fail
  refine (unhide H24).mono ?_
  rintro e w1 ⟨⟨r, rfl, hr⟩, hw⟩
  rw [hw]
  clear hw
  cases r with
  | false =>
    go_wp2_with fail
    go_ret
    exact ⟨rfl, Below.refl _ _⟩
  | true =>
  obtain ⟨hn1, htot⟩ := hr rfl
  clear hr H24
  have hn1' : (n : Int) ≤ 1048576 := by omega
  by_cases hn2 : (n : Int) ≤ 65536
  case neg =>
    have hd : decide ((65536 : Int) < (n : Int)) = true := by simp; omega
    go_wp2_with fail
    go_ret
    exact ⟨rfl, Below.refl _ _⟩
  have hd : decide ((65536 : Int) < (n : Int)) = false := by simp; omega
  go_wp2_with fail
  refine (unhide H15 hn1' (by omega) (by omega) htot).mono ?_
  rintro e w1 ⟨⟨r, rfl, hr⟩, hw⟩
  rw [hw]
  clear hw hr H15
  cases r with
  | true =>
    go_wp2_with fail
    go_ret
    exact ⟨rfl, Below.refl _ _⟩
  | false =>
  go_wp2_with fail
  refine (unhide H16 hn1').mono ?_
  rintro e w1 ⟨⟨r, rfl, hr⟩, hw⟩
  rw [hw]
  clear hw H16
  cases r with
  | false =>
    go_wp2_with fail
    go_ret
    exact ⟨rfl, Below.refl _ _⟩
  | true =>
  have HK := hide (hr rfl)
  clear hr
  go_wp2_with fail
  refine (clone17 b off n cap l w HIN.out hb hn hn1').mono ?_
  rintro e w3 ⟨rfl, hI3, hB1⟩
  have hs1 : w.heap.size < w3.heap.size := World.block_lt_of_cell? w3 _ (hI3 0 (by omega)).1
  have HI3 := hide hI3
  clear hI3 HIN
  go_wp2_with fail
  refine (encode_any w.heap.size n l w3 HI3.out hn (by omega) HK.out hn1' htot).mono ?_
  rintro e w4 ⟨vf, vp, rfl, ho4, hvp, hp4, hB4⟩
  subst hvp
  obtain ⟨af, cf, rfl⟩ := own_shape ho4
  have HI4 := hide (HI3.out.block (hB4.block _ (by omega)))
  clear HI3
  have hpl := place_le l n (by omega)
  have hNp : place l (0 + 1) ≤ (encAll l).length := place_mono l (0 + 1)
  have hpn := place_next l 0 (by omega)
  have hel := (enc_len l[0].1 (bs l[0].2)).2
  have htn := total_take l n
  rw [show n = l.length from hn.symm, place_all] at hpl
  rw [hn] at hpl
  have HF : Hid (∀ q, q < (encAll l).length → w4.cell? ⟨(af.getD ⟨0, 0, none⟩).block, q, none⟩ = some (.int .u8 (fl l q : Int))) := by
    intro q hq
    rcases ho4.2 with ⟨_, h0⟩ | ⟨g, c, cur, hv, _⟩
    · omega
    · simp only [Value.slice.injEq] at hv
      obtain ⟨rfl, _, rfl⟩ := hv
      rw [Option.getD_some]
      show w4.cell? ⟨g, q, none⟩ = _
      rw [ho4.cellAt q (by omega)]
      simp [bc, fl, hq]
  have haf : ∃ gf, af = some ⟨gf, 0, none⟩ ∧ gf < w4.heap.size := by
    rcases ho4.2 with ⟨_, h0⟩ | ⟨g, c, cur, hv, _⟩
    · omega
    · simp only [Value.slice.injEq] at hv
      obtain ⟨rfl, _, rfl⟩ := hv
      exact ⟨g, rfl, (ho4.lt g rfl).2⟩
  obtain ⟨gf, rfl, hgf⟩ := haf
  have hs4 : w3.heap.size < w4.heap.size := (hp4.lt _ rfl).2
  have HNN := hide (show place l n = (encAll l).length by rw [← hn, place_all])
  have hN0 : 0 < (encAll l).length := by omega
  clear ho4 hpn hel hNp
  generalize hNN : (encAll l).length = N at *
  have HNL := hide hNN
  have hNle : N ≤ 16777216 := by omega
  clear hNN hpl htn
  go_wp2_with fail
  refine (blocks_any gf cf N (fl l) w4 HF.out hgf (by omega)).mono ?_
  rintro e w5 ⟨vb, gs, rfl, hob, hgs, hby, hB5⟩
  obtain ⟨gb, cc, rfl, hgb1, hgb2, hT⟩ := tape_of (by omega) hob hby (.int .i64 (N : Int))
  clear hob hby
  have hs5 : w4.heap.size ≤ w5.heap.size := hB5.size
  have HGS := hide hgs
  have HT := hide hT
  clear hgs hT HF
  go_wp2_with fail
  refine (newTape_any _ _ _ _ w5).mono ?_
  rintro e w6 ⟨rfl, hw6⟩
  rw [hw6]
  clear hw6
  go_wp2_with fail
  have W0 : WalkInv w ((w5.alloc (.cells #[.slice (some ⟨gb, 0, none⟩) (nb N) cc, .int .i64 (N : Int)] 65)).alloc (.cells #[.slice none 0 0] 29)) w5.heap.size gb cc gs N (w5.heap.size + 1) w3.heap.size l n := by
    refine ⟨HT.out.grownN (World.grownBy_alloc _ _ _), fun j hj => ?_, fun j hj => ?_, ⟨.slice none 0 0, 0, [], ?_, World.frozen?_alloc_at _ _ _ _ (by simp), World.ownsRow_nil _ _ _ _, fun G hG => by simp [Value.ownBlock] at hG⟩, ?_, by omega, by omega, fun q hq => by have := HGS.out q hq; omega, by omega, by omega⟩
    · have h := (HI4.out.block (hB5.block _ (by omega))) j hj
      exact ⟨cell_alloc (cell_alloc h.1 _) _, cell_alloc (cell_alloc h.2 _) _⟩
    · refine cell_alloc (cell_alloc ((hB5.cell (p := ⟨w3.heap.size, j, none⟩) hs4).trans ?_) _) _
      rw [hp4.cellAt j (by omega), ic_places l (n + 1) j (by omega)]
    · rw [World.cell?_alloc_at _ _ _ _ (by simp)]; rfl
    · exact (((hB1.trans (hB4.mono (by omega))).trans (hB5.mono (by omega))).alloc (by omega) _).alloc (by simp; omega) _
  have HW0 := hide W0
  clear W0 HT HGS HI4 hp4 hB5 hB4 hB1
  go_loopw [7, 8] (fun p i wr => ∃ j : Nat, j ≤ n ∧ i = .int .i64 j ∧ p = .int .i64 (place l j : Int) ∧ WalkInv w wr w5.heap.size gb cc gs N (w5.heap.size + 1) w3.heap.size l n) (fun _ i _ => n - (intOf i).toNat)
  case atStart => exact ⟨0, Nat.zero_le _, rfl, rfl, HW0.out⟩
  case round =>
    obtain ⟨j, hj, rfl, rfl, Wr⟩ := hrel
    clear HW0
    by_cases hlt : (j : Int) < (n : Int)
    · have hj' : j < l.length := by omega
      have C22 := hide (long_step Wr hNle HNL.out j hj' (HK.out j hj'))
      have HE := hide (place_at l j hj')
      have hpn := place_next l j hj'
      have hpm := place_mono l (j + 1)
      rw [HNL.out] at hpm
      have hkk := HK.out j hj'
      have hss := size_le l j hj'
      have HWit := hide (fun (w8 : World) (W8 : WalkInv w w8 w5.heap.size gb cc gs N (w5.heap.size + 1) w3.heap.size l n) => W8.it j hj')
      clear Wr
      generalize l[j] = x at *
      obtain ⟨k, s⟩ := x
      simp only at HE C22 hpn hkk hss HWit
      have HPN := hide hpn
      have hPQ : place l j ≤ place l (j + 1) := by omega
      go_wp2_with fail
      refine (unhide C22).mono ?_
      rintro e w8 ⟨⟨ao, le, ca, rfl, hH⟩, W8⟩
      have hpe := W8.pl (j + 1) (by omega)
      obtain ⟨ci0, ci1⟩ := HWit.out w8 W8
      have HW8 := hide W8
      have CS := hide fun nq => zzshort_any w5.heap.size gb cc gs (fl l) N (place l j) k (bs s) (w8.drewN nq) (W8.drewN nq).T hNle hkk HE.out (by have := HPN.out; omega)
      have HH := hide hH
      clear W8 hH C22 HWit hpn HE
      have hZ : 0 < (enc k (bs s)).length := by have := (enc_len k (bs s)).2; omega
      generalize place l j = P at *
      generalize hQ : place l (j + 1) = Q at *
      have HQ := hide hQ
      clear hQ
      generalize (enc k (bs s)).length = Z at *
      have hne1 : ((k : Int) != (k : Int)) = false := by simp
      have hne2 : ((Q : Int) != (Q : Int)) = false := by simp
      go_wp2_with fail
      refine (sameText_any _ s w8 HH.out (by omega)).mono ?_
      rintro e w9 ⟨rfl, nq, rfl⟩
      go_wp2_with fail
      refine (unhide CS nq).mono ?_
      rintro e w10 ⟨hS, nq2, hw⟩
      rw [hw]
      clear hw
      rcases hS with rfl | ⟨ao2, rfl, hS⟩
      · go_wp2_with fail
        go_roundw
        case rel => exact ⟨j + 1, by omega, by go_num, by rw [HQ.out], by first | exact HW8.out.drewN _ | exact (HW8.out.drewN _).drewN _⟩
        case measure => simp [intOf]; omega
      · have hS8 : Holds w8 (.slice ao2 (bs s).length (bs s).length) (bs s) := hS
        have HS2 := hide fun q => hS8.drewN q
        clear hS hS8
        have hZd : decide ((0 : Int) < (Z : Int)) = true := by simp; omega
        have hPZb : (P : Int) + (Z : Int) ≤ 16777216 := by have := HPN.out; omega
        have hPZ : (((P : Int) + (Z : Int)) != (Q : Int)) = false := by have := HPN.out; simp; omega
        go_wp2_with fail
        refine (sameText_any _ s _ (HS2.out _) (by omega)).mono ?_
        rintro e w11 ⟨rfl, nq3, rfl⟩
        go_wp2_with fail
        go_roundw
        case rel => exact ⟨j + 1, by omega, by go_num, by rw [HQ.out], by first | exact HW8.out.drewN _ | exact (HW8.out.drewN _).drewN _ | exact ((HW8.out.drewN _).drewN _).drewN _⟩
        case measure => simp [intOf]; omega
    · have hjn : j = n := by omega
      subst hjn
      have hPN := HNN.out
      have HWr := hide Wr
      clear Wr
      generalize place l j = P at *
      subst hPN
      have heq : ((P : Int) == (P : Int)) = true := by simp
      go_wp2_with fail
      go_ret
      exact ⟨rfl, HWr.out.below⟩
end Go.Proofs.Qxb6604427a

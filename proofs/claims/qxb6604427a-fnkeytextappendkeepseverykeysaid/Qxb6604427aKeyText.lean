/-
  KeyText (12).
-/
import Derived.Test.Qxb6604427aKeyRead
import Derived.BigQuiet
namespace Go.Proofs.Qxb6604427a
open Go Go.RowKit
set_option maxRecDepth 100000
attribute [local go_sem ↓] Go.wp_at_zero Go.wp_at_succ

theorem KeyStep.drewN {w w' : World} {K nq : Nat} (h : KeyStep (w.drewN nq) w' K) : KeyStep w w' K := ⟨h.os, h.tape, h.output, h.size, h.block⟩
theorem KeyStep.drew {w w' : World} {K : Nat} (h : KeyStep w.drew w' K) : KeyStep w w' K := ⟨h.os, h.tape, h.output, h.size, h.block⟩

set_option maxHeartbeats 4000000 in
theorem keyText12 {wr : World} {K gb c : Nat} {gs : Nat → Nat} {N : Nat} {l : List (Nat × ByteArray)} {a nk SG PB TG S0 ns cs : Nat} {vs : Value} (W : KeysAt wr K gb c gs N l a nk SG PB TG S0 ns cs vs) (hN : N ≤ 16777216) (hNl : (encAll l).length = N) (n : Nat) (hn : n < nk) (hl : l.length = a + nk) (hk : ∀ j (h : j < l.length), l[j].1 ≤ 15)
    (hns : ns ≤ 65536) (hnk : nk ≤ 65536) (h : a + n < l.length) :
    Calls Try.prog 12 #[.pointer (some ⟨K, 0, none⟩), .int .i64 n] wr fun e w' => ∃ v vs', e = .returned v ∧ TextSays w' v (bs l[a + n].2) vs ∧ KeysAt w' K gb c gs N l a nk SG PB TG S0 ns cs vs' ∧ KeyStep wr w' K := by
  have HW := hide W
  have c1 := W.sets
  have c2 := W.start
  have c3 := W.first
  have HST := hide W.stops
  have HK := hide hk
  clear W hk
  have hdiv : (n : Int) / 16 = ((n / 16 : Nat) : Int) := by omega
  have hmod : (n : Int) % 16 = ((n % 16 : Nat) : Int) := by omega
  have HNM := hide (show n = 16 * (n / 16) + n % 16 by omega)
  have hm16 : n % 16 < 16 := Nat.mod_lt _ (by omega)
  generalize hI : n / 16 = I at *
  generalize hM : n % 16 = M at *
  clear hI hM
  go_enter Try.func12, Try.ntmps12
  go_wp2_with fail
  go_quiet (fail)
  go_upto_if 31 with fail
  go_cut [6] (fun p wd => p = .int .i64 (place l (a + 16 * I) : Int) ∧ ∃ nq, wd = wr.drewN nq)
  case first =>
    by_cases hI0 : I = 0
    · subst hI0
      go_wp2_with fail
      go_meet
      case rel => exact ⟨rfl, _, rfl⟩
    · have hd : decide ((0 : Int) < (I : Int)) = true := by simp; omega
      obtain ⟨s1, s2, s3⟩ := HST.out (by have := HNM.out; omega)
      obtain ⟨s4, s5⟩ := s3 I (by omega) (by have := HNM.out; omega)
      have hQ : (S0 : Int) + (I : Int) - 1 = ((S0 + I - 1 : Nat) : Int) := by omega
      generalize hq : S0 + I - 1 = Q at *
      have hS0 : (S0 : Int) ≤ 65536 := by omega
      have hI5 : (I : Int) ≤ 65536 := by have := HNM.out; omega
      clear hq s3
      go_wp2_with fail
      go_quiet ((go_at_call 28; go_must (refine (at28 K PB TG ns cs Q (wr.drewN _) s1 s2 s4 (by omega)).mono ?_; rintro e w' ⟨rfl, rfl⟩; exact ⟨rfl, _, rfl⟩)))
      go_wp2_with fail
      go_meet
      case rel => exact ⟨rfl, _, by rw [World.drewN_drewN]⟩
  case rest =>
  obtain ⟨rfl, nq2, hwc⟩ := hcut
  subst hwc
  clear HST c1 c2 c3
  go_wp2_with fail
  rw [hmod]
  clear hmod
  go_loopw [6, 47] (fun p i wd => ∃ (j nq : Nat), j ≤ M ∧ i = .int .i64 j ∧ p = .int .i64 (place l (a + 16 * I + j) : Int) ∧ wd = wr.drewN nq) (fun _ i _ => M - (intOf i).toNat)
  case atStart => exact ⟨0, nq2, Nat.zero_le _, rfl, rfl, rfl⟩
  case round =>
    obtain ⟨j, nq3, hj, rfl, rfl, hwr⟩ := hrel
    subst hwr
    by_cases hlt : (j : Int) < (M : Int)
    · have hj' : a + 16 * I + j < l.length := by have := HNM.out; omega
      have hpn := place_next l _ hj'
      have hpm := place_mono l (a + 16 * I + j + 1)
      rw [hNl] at hpm
      have C29 := hide (head_any K gb c gs (fl l) N (place l (a + 16 * I + j)) l[a + 16 * I + j].1 (bs l[a + 16 * I + j].2) (wr.drewN nq3) (HW.out.drewN nq3).T hN (HK.out _ hj') (place_at l _ hj') (by omega) (by have := (enc_len l[a + 16 * I + j].1 (bs l[a + 16 * I + j].2)).2; omega))
      have hsp := enc_split l[a + 16 * I + j].1 (bs l[a + 16 * I + j].2)
      generalize l[a + 16 * I + j] = x at *
      generalize hQ : place l (a + 16 * I + j + 1) = Q at *
      have HQ := hide hQ
      clear hQ
      generalize place l (a + 16 * I + j) = P at *
      generalize (bs x.2).length = t at *
      generalize hR : P + hdr t = R at *
      have HR := hide (show Q = R + t by omega)
      have hRt : (R : Int) + (t : Int) ≤ 16777216 := by omega
      have ht : (t : Int) ≤ 16777216 := by omega
      clear hR hpn hsp
      go_wp2_with fail
      refine (unhide C29).mono ?_
      rintro e w1 ⟨rfl, hw1⟩
      rw [hw1]
      clear hw1
      go_wp2_with fail
      go_roundw
      case rel =>
        exact ⟨j + 1, nq3, by omega, by go_num, by rw [show a + 16 * I + (j + 1) = a + 16 * I + j + 1 by omega, HQ.out, HR.out]; go_num, rfl⟩
      case measure => simp [intOf]; omega
    · have hjM : j = M := by omega
      subst hjM
      have hnn : a + 16 * I + j = a + n := by have := HNM.out; omega
      rw [hnn]
      have C30 := hide (textAt30 (HW.out.drewN nq3).drew hN hNl (a + n) h (HK.out _ h))
      clear hnn
      generalize place l (a + n) = P at *
      generalize place l (a + n + 1) = Q at *
      go_wp2_with fail
      go_region_held3 (fun _ => True) (trivial) ((go_at_call 30; go_must (refine (unhide C30).mono ?_; rintro e w3 ⟨v3, vs3, rfl, hT3, hW3, hS3⟩)))
      have HT3 := hide hT3
      have HW3 := hide hW3
      have HS3 := hide hS3
      clear hT3 hW3 hS3
      go_wp2_with fail
      go_ret
      exact ⟨_, _, rfl, HT3.out, HW3.out, HS3.out.drew.drewN⟩
end Go.Proofs.Qxb6604427a

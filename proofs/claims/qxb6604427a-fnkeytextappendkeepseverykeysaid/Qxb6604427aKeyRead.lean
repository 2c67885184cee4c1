/-
  item (35), textAt (30), blocks[int].at (28), KeyText (12): reading a key.
-/
import Derived.Test.Qxb6604427aShort
import Derived.Test.Qxb6604427aKeyOpen
namespace Go.Proofs.Qxb6604427a
open Go Go.RowKit
set_option maxRecDepth 100000
attribute [local go_sem ↓] Go.wp_at_zero Go.wp_at_succ

/-- A key set's memory: the struct in block K, its tape, its two sets in block SG, its stops. -/
structure KeysAt (wr : World) (K gb c : Nat) (gs : Nat → Nat) (N : Nat) (l : List (Nat × ByteArray)) (a nk SG PB TG S0 ns cs : Nat) (vs : Value) : Prop where
  T : TapeAt wr K gb c gs (fl l) N
  sets : wr.cell? ⟨K, 4, none⟩ = some (.slice (some ⟨SG, 0, none⟩) 2 2)
  start : wr.cell? ⟨SG, 5, none⟩ = some (.int .i64 (place l a : Int))
  first : wr.cell? ⟨SG, 7, none⟩ = some (.int .i64 (S0 : Int))
  stops : 16 < nk → wr.cell? ⟨K, 2, none⟩ = some (.slice (some ⟨PB, 0, none⟩) 1 1) ∧ wr.cell? ⟨PB, 0, none⟩ = some (.slice (some ⟨TG, 0, none⟩) ns cs) ∧ ∀ i, 0 < i → 16 * i < nk → S0 + i - 1 < ns ∧ wr.cell? ⟨TG, S0 + i - 1, none⟩ = some (.int .i64 (place l (a + 16 * i) : Int))
  buf : wr.cell? ⟨K, 6, none⟩ = some vs
  fz : wr.frozen? ⟨K, 6, none⟩ = false
  own : ∃ lb X, wr.ownsRow 0 5 1 vs lb X
  ownLt : ∀ G, vs.ownBlock = some G → K < G
  hgb : gb < K
  hgs : ∀ q, q < nb N → gs q < K
  hsg : SG < K
  hpb : PB < K
  htg : TG < K

theorem KeysAt.drewN {wr : World} {K gb c : Nat} {gs : Nat → Nat} {N : Nat} {l : List (Nat × ByteArray)} {a nk SG PB TG S0 ns cs : Nat} {vs : Value} (h : KeysAt wr K gb c gs N l a nk SG PB TG S0 ns cs vs) (k : Nat) : KeysAt (wr.drewN k) K gb c gs N l a nk SG PB TG S0 ns cs vs := by
  obtain ⟨lb, X, hX⟩ := h.own
  exact ⟨h.T.keep fun _ _ _ => rfl, h.sets, h.start, h.first, h.stops, h.buf, h.fz, ⟨lb, X, own_keep hX (fun _ _ => rfl) (Nat.zero_le _)⟩, h.ownLt, h.hgb, h.hgs, h.hsg, h.hpb, h.htg⟩

theorem KeysAt.drew {wr : World} {K gb c : Nat} {gs : Nat → Nat} {N : Nat} {l : List (Nat × ByteArray)} {a nk SG PB TG S0 ns cs : Nat} {vs : Value} (h : KeysAt wr K gb c gs N l a nk SG PB TG S0 ns cs vs) : KeysAt wr.drew K gb c gs N l a nk SG PB TG S0 ns cs vs := by
  obtain ⟨lb, X, hX⟩ := h.own
  exact ⟨h.T.keep fun _ _ _ => rfl, h.sets, h.start, h.first, h.stops, h.buf, h.fz, ⟨lb, X, own_keep hX (fun _ _ => rfl) (Nat.zero_le _)⟩, h.ownLt, h.hgb, h.hgs, h.hsg, h.hpb, h.htg⟩

theorem KeysAt.chg {wr w' : World} {K gb c : Nat} {gs : Nat → Nat} {N : Nat} {l : List (Nat × ByteArray)} {a nk SG PB TG S0 ns cs : Nat} {vs : Value} (h : KeysAt wr K gb c gs N l a nk SG PB TG S0 ns cs vs) (hc : Chg wr w' K 6 vs)
    {v : Value} {m : Nat} {X : List Value} (h1 : w'.cell? ⟨K, 6, none⟩ = some v) (h2 : w'.ownsRow 0 5 1 v m X) (h3 : ∀ G, v.ownBlock = some G → K < G) : KeysAt w' K gb c gs N l a nk SG PB TG S0 ns cs v := by
  have hlo : ∀ {a : Addr} {u : Value}, wr.cell? a = some u → a.block < K → w'.cell? a = some u := fun hu ha => hc.kept _ _ hu (fun e => by rw [e] at ha; exact absurd ha (Nat.lt_irrefl _)) (fun e => by have := h.ownLt _ e; omega)
  have hK : ∀ {o : Nat} {u : Value}, wr.cell? ⟨K, o, none⟩ = some u → o ≠ 6 → w'.cell? ⟨K, o, none⟩ = some u := fun hu ho => hc.kept _ _ hu (fun e => ho (congrArg Addr.off e)) (fun e => by have := h.ownLt _ e; exact absurd this (Nat.lt_irrefl _))
  refine ⟨⟨hK h.T.hd (by omega), fun q hq => hlo (h.T.bls q hq) h.hgb, fun q hq j hj => hlo (h.T.bytes q hq j hj) (h.hgs q hq)⟩, hK h.sets (by omega), hlo h.start h.hsg, hlo h.first h.hsg, fun hnk => ?_, h1, hc.fz h.fz, ⟨m, X, h2⟩, h3, h.hgb, h.hgs, h.hsg, h.hpb, h.htg⟩
  obtain ⟨s1, s2, s3⟩ := h.stops hnk
  exact ⟨hK s1 (by omega), hlo s2 h.hpb, fun i h0 hi => ⟨(s3 i h0 hi).1, hlo (s3 i h0 hi).2 h.htg⟩⟩

/-- A text came back. -/
def TextSays (w : World) (v : Value) (t : List Nat) (vs : Value) : Prop := ∃ ao c, v = .slice ao t.length c ∧ Holds w v t ∧ (vs.ownBlock = none → c = t.length)

/-- What else a read may have changed: nothing but the buffer's cell and the buffer. -/
structure KeyStep (wr w' : World) (K : Nat) : Prop where
  os : w'.os = wr.os
  tape : w'.tape = wr.tape
  output : w'.output = wr.output
  size : wr.heap.size ≤ w'.heap.size
  block : ∀ k, k < K → w'.heap[k]? = wr.heap[k]?

theorem KeyStep.below {w0 w w' : World} {W K : Nat} (h : Below W w0 w) (k : KeyStep w w' K) (h1 : W ≤ K) : Below W w0 w' :=
  h.trans ⟨k.os, k.tape, k.output, k.size, fun i hi => k.block i (by omega)⟩

set_option maxHeartbeats 2000000 in
theorem item35 {wr : World} {K gb c : Nat} {gs : Nat → Nat} {N : Nat} {l : List (Nat × ByteArray)} {a nk SG PB TG S0 ns cs : Nat} {vs : Value} (W : KeysAt wr K gb c gs N l a nk SG PB TG S0 ns cs vs) (hN : N ≤ 16777216) (hNl : (encAll l).length = N) (j : Nat) (hj : j < l.length) (hk : l[j].1 ≤ 15) :
    Calls Try.prog 35 #[.pointer (some ⟨K, 0, none⟩), .int .i64 (place l j : Int), .pointer (some ⟨K, 6, none⟩)] wr fun e w' => ∃ v vs', e = .returned (.tuple #[.int .u8 l[j].1, v, .int .i64 (place l (j + 1) : Int)]) ∧ TextSays w' v (bs l[j].2) vs ∧ KeysAt w' K gb c gs N l a nk SG PB TG S0 ns cs vs' ∧ KeyStep wr w' K := by
  have hE := place_at l j hj
  have hp := place_next l j hj
  have hm := place_mono l (j + 1)
  generalize l[j] = x at *
  obtain ⟨k, s⟩ := x
  simp only at hE hp hk ⊢
  have C32 := hide (short_any K gb c gs (fl l) N (place l j) k (bs s) wr W.T hN hk hE (by omega))
  have HP := hide hp
  have HE := hide hE
  have HW := hide W
  have hZ : 0 < (enc k (bs s)).length := by have := (enc_len k (bs s)).2; omega
  have hPQ : place l j + (enc k (bs s)).length ≤ N := by omega
  clear hE hp W
  generalize hP : place l j = P at *
  generalize hQ : place l (j + 1) = Q at *
  clear hP hQ
  generalize hZZ : (enc k (bs s)).length = Z at *
  have HZ := hide hZZ
  clear hZZ
  go_enter Try.func35, Try.ntmps35
  go_wp2_with fail
  refine (unhide C32).mono ?_
  rintro e w1 ⟨hS, nq, hw⟩
  rw [hw]
  clear hw
  rcases hS with rfl | ⟨ao, rfl, hS⟩
  · have W1 := HW.out.drewN nq
    by_cases hIB : (bs s).length = 0 ∨ InBlock (P + hdr (bs s).length) (bs s).length
    · have C31 := hide (long_in K gb c gs (fl l) N P k K 6 (bs s) (wr.drewN nq) W1.T hN hk HE.out (by rw [HZ.out]; exact hPQ) hIB)
      have HV := hide (inVal_holds W1.T HE.out (by rw [HZ.out]; exact hPQ) hIB)
      have HV2 := hide (show ∃ ao, inVal gs (P + hdr (bs s).length) (bs s).length = .slice ao (bs s).length (bs s).length by
        unfold inVal; split
        · rename_i h; rw [h]; exact ⟨_, rfl⟩
        · exact ⟨_, rfl⟩)
      rw [HZ.out] at C31
      clear hIB W1
      go_wp2_with fail
      refine (unhide C31).mono ?_
      rintro e w2 ⟨rfl, rfl⟩
      obtain ⟨av, hav⟩ := HV2.out
      rw [hav]
      have HV3 := HV.out
      rw [hav] at HV3
      have HV4 := hide HV3
      clear HV3 HV HV2 hav
      go_wp2_with fail
      go_ret3
      exact ⟨_, _, ret3v rfl (by have := HP.out; omega), ⟨_, _, rfl, HV4.out, fun _ => rfl⟩, HW.out.drewN nq, ⟨rfl, rfl, rfl, Nat.le_refl _, fun _ _ => rfl⟩⟩
    · have hs0 : 0 < (bs s).length := by omega
      obtain ⟨lb, X, hX⟩ := W1.own
      have C31 := hide (long_join K gb c gs (fl l) N P k K 6 (bs s) (wr.drewN nq) W1.T hN hk HE.out (by rw [HZ.out]; exact hPQ) hs0 (fun h => hIB (Or.inr h)) vs lb X W1.buf W1.fz hX
        (fun G hG => by have h := W1.ownLt G hG; have h2 := W1.hgb; exact ⟨⟨by omega, by omega, fun q hq => by have := W1.hgs q hq; omega⟩, by omega⟩))
      rw [HZ.out] at C31
      have HW1 := hide W1
      clear hIB W1 hX
      go_wp2_with fail
      refine (unhide C31).mono ?_
      rintro e w2 ⟨G, C, rfl, a1, a2, a3, a4⟩
      have A1 := hide a1
      have A2 := hide a2
      have A3 := hide a3
      have A4 := hide a4
      clear a1 a2 a3 a4
      go_wp2_with fail
      go_ret3
      have a3 := A3.out
      have a4 := A4.out
      have W1 := HW1.out
      have hKs : K < (wr.drewN nq).heap.size := World.block_lt_of_cell? _ _ W1.buf
      refine ⟨_, _, ret3v rfl (by have := HP.out; omega), ⟨_, _, rfl, own_holds A2.out, fun h => ?_⟩, W1.chg a4 A1.out A2.out (fun G' hG' => ?_), ⟨a4.os, a4.tape, a4.output, a4.size, fun i hi => a4.block i (Nat.lt_trans hi hKs) (by omega) (fun e => by have := W1.ownLt _ e; omega)⟩⟩
      · rcases a3 with ⟨_, h3⟩ | h3
        · exact h3
        · rw [h] at h3; cases h3
      · simp [Value.ownBlock] at hG'
        subst hG'
        rcases a3 with ⟨rfl, _⟩ | h
        · exact hKs
        · exact W1.ownLt _ h
  · have hS2 := hide (hS.drewN nq)
    clear hS
    have hZd : decide ((0 : Int) < (Z : Int)) = true := by simp; omega
    go_wp2_with fail
    go_ret3
    exact ⟨_, _, ret3v rfl (by have := HP.out; omega), ⟨_, _, rfl, hS2.out, fun _ => rfl⟩, HW.out.drewN nq, ⟨rfl, rfl, rfl, Nat.le_refl _, fun _ _ => rfl⟩⟩

set_option maxHeartbeats 1000000 in
theorem textAt30 {wr : World} {K gb c : Nat} {gs : Nat → Nat} {N : Nat} {l : List (Nat × ByteArray)} {a nk SG PB TG S0 ns cs : Nat} {vs : Value} (W : KeysAt wr K gb c gs N l a nk SG PB TG S0 ns cs vs) (hN : N ≤ 16777216) (hNl : (encAll l).length = N) (j : Nat) (hj : j < l.length) (hk : l[j].1 ≤ 15) :
    Calls Try.prog 30 #[.pointer (some ⟨K, 0, none⟩), .int .i64 (place l j : Int), .pointer (some ⟨K, 6, none⟩)] wr fun e w' => ∃ v vs', e = .returned (.tuple #[v, .int .i64 (place l (j + 1) : Int)]) ∧ TextSays w' v (bs l[j].2) vs ∧ KeysAt w' K gb c gs N l a nk SG PB TG S0 ns cs vs' ∧ KeyStep wr w' K := by
  have C35 := hide (item35 W hN hNl j hj hk)
  clear W
  generalize place l j = P at *
  generalize place l (j + 1) = Q at *
  generalize l[j] = x at *
  go_enter Try.func30, Try.ntmps30
  go_wp2_with fail
  refine (unhide C35).mono ?_
  rintro e w1 ⟨v, vs', rfl, hT, hW, hS⟩
  have HT := hide hT
  have HW := hide hW
  have HS := hide hS
  clear hT hW hS
  go_wp2_with fail
  go_ret2
  exact ⟨_, _, rfl, HT.out, HW.out, HS.out⟩

set_option maxHeartbeats 1000000 in
theorem at28 (K PB TG ns cs q : Nat) (w : World) (c0 : w.cell? ⟨K, 2, none⟩ = some (.slice (some ⟨PB, 0, none⟩) 1 1)) (c1 : w.cell? ⟨PB, 0, none⟩ = some (.slice (some ⟨TG, 0, none⟩) ns cs)) (hq : q < ns) (hn : q < 65536) :
    Calls Try.prog 28 #[.pointer (some ⟨K, 2, none⟩), .int .i64 q] w fun e w' => e = .returned (.pointer (some ⟨TG, q, none⟩)) ∧ w' = w := by
  have hand := and_65535 q (by omega)
  rw [Nat.mod_eq_of_lt hn] at hand
  have hsh : (q : Int) / 65536 = 0 := by omega
  have hq2 : (q : Int) < 65536 := by omega
  go_enter Try.func28, Try.ntmps28
  go_wp2_with fail
  go_ret
  exact ⟨rfl, rfl⟩
end Go.Proofs.Qxb6604427a

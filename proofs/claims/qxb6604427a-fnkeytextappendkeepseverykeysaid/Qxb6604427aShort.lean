/-
  shortItem (32), ZZshortItem (25).
-/
import Derived.Test.Qxb6604427aReads
namespace Go.Proofs.Qxb6604427a
open Go Go.RowKit
set_option maxRecDepth 100000

/-- What shortItem answers: nothing, or the item. -/
def ShortSays (w : World) (e : Ending) (k : Nat) (t : List Nat) (n z : Nat) : Prop :=
  e = .returned (.tuple #[.int .u8 0, .slice none 0 0, .int .i64 0]) ∨ ∃ ao, e = .returned (.tuple #[.int .u8 k, .slice ao n n, .int .i64 z]) ∧ Holds w (.slice ao n n) t

theorem ret3z {a c d g : Int} {ao : Option Addr} {x y n : Nat} {k l : IntKind} (h : a = d) (hx : x = n) (hy : y = n) (h' : c = g) : Ending.returned (.tuple #[.int k a, .slice ao x y, .int l c]) = .returned (.tuple #[.int k d, .slice ao n n, .int l g]) := by rw [h, h', hx, hy]
theorem ret3s {a c d g : Int} {v u : Value} {k l : IntKind} (h : a = d) (hv : v = u) (h' : c = g) : Ending.returned (.tuple #[.int k a, v, .int l c]) = .returned (.tuple #[.int k d, u, .int l g]) := by rw [h, h', hv]

theorem short_holds {w : World} {bt gb c : Nat} {gs f : Nat → Nat} {N p k : Nat} {t : List Nat} (T : TapeAt w bt gb c gs f N) (hE : UvAt f p (enc k t)) (hp : p + (enc k t).length ≤ N) (h : p % 65536 + hdr t.length + t.length ≤ 65536) :
    Holds w (.slice (some ⟨gs (p / 65536), p % 65536 + hdr t.length, none⟩) t.length t.length) t := by
  by_cases h0 : t.length = 0
  · have : t = [] := List.length_eq_zero_iff.1 h0
    subst this
    exact Or.inl ⟨rfl, _, _, rfl⟩
  · have hI : InBlock (p + hdr t.length) t.length := by unfold InBlock; omega
    have hV := inVal_holds T hE hp (Or.inr hI)
    unfold inVal at hV
    rw [if_neg h0, show (p + hdr t.length) / 65536 = p / 65536 by omega, show (p + hdr t.length) % 65536 = p % 65536 + hdr t.length by omega] at hV
    exact hV

set_option maxHeartbeats 2000000 in
theorem short_any (bt gb c : Nat) (gs f : Nat → Nat) (N p k : Nat) (t : List Nat) (w : World) (T : TapeAt w bt gb c gs f N) (hN : N ≤ 16777216) (hk : k ≤ 15) (hE : UvAt f p (enc k t)) (hp : p + (enc k t).length ≤ N) :
    Calls Try.prog 32 #[.pointer (some ⟨bt, 0, none⟩), .int .i64 p] w fun e w' => ShortSays w e k t t.length (enc k t).length ∧ ∃ nq, w' = w.drewN nq := by
  have HS := hide (short_holds T hE hp)
  have hl := enc_split k t
  have hh := hdr_le t.length
  have hpN : p < N := by omega
  obtain ⟨h1, h2⟩ := at_form N p hpN
  have c0 := T.hd
  have c1 := T.bls (p / 65536) h1
  have hc := T.cell p hpN
  have hand := and_65535 p (by omega)
  have hfp := enc_head hE
  have HC := hide (fun h => T.cell (p + 1) h)
  have HU := hide (fun h => enc_uv hE h)
  generalize hC : f p = C at hc hfp
  have hsh0 : (p : Int) / 65536 = ((p / 65536 : Nat) : Int) := by omega
  have hb : bl N (p / 65536) ≤ 65536 := by unfold bl; omega
  have hbN : p % 65536 + 1 < bl N (p / 65536) → p + 1 < N ∧ (p + 1) / 65536 = p / 65536 ∧ (p + 1) % 65536 = p % 65536 + 1 := by unfold bl; omega
  have hp' : (p : Int) ≤ 16777216 := by omega
  have hnn : nb N ≤ 65536 := by unfold nb; omega
  clear T hE hC
  have HL := hide hl
  clear hl
  by_cases hn : t.length < 15
  · rw [if_pos hn] at hfp
    have hhd : hdr t.length = 1 := by unfold hdr; rw [if_pos hn]
    rw [hhd] at HS HL
    generalize (enc k t).length = Z at *
    generalize p / 65536 = q at *
    generalize p % 65536 = r at *
    generalize hLL : bl N q = L at *
    generalize nb N = M at *
    clear hLL hhd hbN HC HU hh
    have hC1 : (C : Int) < 256 := by omega
    have hand2 : bits .and .u8 (C : Int) 15 = (k : Int) := by rw [and_15 C (by omega)]; omega
    have HT0 := hide (fun h : t.length = 0 => List.eq_nil_of_length_eq_zero h)
    generalize hn' : t.length = n at *
    clear hn'
    have hshr : (C : Int) / 16 = (n : Int) := by omega
    have hn15 : ((n : Int) == 15) = false := by simp; omega
    have HZ := hide (show Z = 1 + n from HL.out)
    clear hfp HL
    have hd1 : decide ((143 : Int) ≤ (n : Int)) = false := by simp; omega
    have hrL : ¬ L = r := by omega
    by_cases hbig : L - r < 1 + n
    · have hd2 : decide ((L : Int) - (r : Int) < 1 + (n : Int)) = true := by simp; omega
      go_enter Try.func32, Try.ntmps32
      go_wp2_with fail
      go_ret3
      exact ⟨Or.inl rfl, 0, rfl⟩
    · have hd2 : decide ((L : Int) - (r : Int) < 1 + (n : Int)) = false := by simp; omega
      by_cases hn0 : n = 0
      · have ht0 := HT0.out hn0
        subst hn0
        subst ht0
        go_enter Try.func32, Try.ntmps32
        go_wp2_with fail
        go_quiet (fail)
        go_wp2_with fail
        go_ret3
        exact ⟨Or.inr ⟨_, ret3s rfl rfl (by rw [HZ.out]; rfl), Or.inl ⟨rfl, _, _, rfl⟩⟩, _, rfl⟩
      · go_enter Try.func32, Try.ntmps32
        go_wp2_with fail
        go_quiet (fail)
        go_wp2_with fail
        go_ret3
        exact ⟨Or.inr ⟨_, ret3z rfl (by omega) (by omega) (by rw [HZ.out]; omega), HS.out (by omega)⟩, _, rfl⟩
  · rw [if_neg hn] at hfp
    have hC1 : (C : Int) < 256 := by omega
    have hand2 : bits .and .u8 (C : Int) 15 = (k : Int) := by rw [and_15 C (by omega)]; omega
    have hshr : (C : Int) / 16 = 15 := by omega
    by_cases hone : p % 65536 + 1 < bl N (p / 65536)
    · obtain ⟨g1, g2, g3⟩ := hbN hone
      have hc2 := HC.out g1
      rw [g2, g3] at hc2
      have hU := HU.out hn
      have hD : (f (p + 1) = t.length - 15 ∧ hdr t.length = 2 ∧ f (p + 1) < 128) ∨ 128 ≤ f (p + 1) ∧ f (p + 1) < 256 ∧ True := by
        have h0 := hU 0 (uv_pos _)
        rw [Nat.add_zero] at h0
        by_cases hu : t.length - 15 < 128
        · left
          have h1 : f (p + 1) = t.length - 15 := by rw [h0]; simp [uv_small hu]
          refine ⟨h1, ?_, by omega⟩
          unfold hdr; rw [if_neg hn, uv_small hu]; rfl
        · right
          rw [h0]; simp [uv_big hu]; omega
      clear HC HU hU g1 g2 g3 hbN
      generalize (enc k t).length = Z at *
      generalize p / 65536 = q at *
      generalize p % 65536 = r at *
      generalize hLL : bl N q = L at *
      generalize nb N = M at *
      generalize f (p + 1) = D at *
      clear hLL hfp
      have hrL : ¬ L = r := by omega
      have hone2 : decide ((1 : Int) < (L : Int) - (r : Int)) = true := by simp; omega
      have hone3 : (1 : Int) < (L : Int) - (r : Int) := by omega
      rcases hD with ⟨hD, hh2, hD3⟩ | ⟨hD, hD2, -⟩
      · rw [hh2] at HS HL
        generalize t.length = n at *
        have HZ := hide (show Z = 2 + n from HL.out)
        clear HL hh2 hh
        have hn2 : n = 15 + D := by omega
        subst hn2
        clear hD
        have hd1 : decide ((143 : Int) ≤ 15 + (D : Int)) = false := by simp; omega
        have hD9 : (D : Int) < 256 := by omega
        by_cases hbig : L - r < 2 + (15 + D)
        · have hd2 : decide ((L : Int) - (r : Int) < 2 + (15 + (D : Int))) = true := by simp; omega
          go_enter Try.func32, Try.ntmps32
          go_wp2_with fail
          go_ret3
          exact ⟨Or.inl rfl, 0, rfl⟩
        · have hd2 : decide ((L : Int) - (r : Int) < 2 + (15 + (D : Int))) = false := by simp; omega
          go_enter Try.func32, Try.ntmps32
          go_wp2_with fail
          go_quiet (fail)
          go_wp2_with fail
          go_ret3
          exact ⟨Or.inr ⟨_, ret3z rfl (by omega) (by omega) (by rw [HZ.out]; omega), HS.out (by omega)⟩, _, rfl⟩
      · have hd1 : decide ((143 : Int) ≤ 15 + (D : Int)) = true := by simp; omega
        have hD9 : (D : Int) < 256 := by omega
        clear hD
        go_enter Try.func32, Try.ntmps32
        go_wp2_with fail
        go_ret3
        exact ⟨Or.inl rfl, 0, rfl⟩
    · have hL1 : bl N (p / 65536) - p % 65536 = 1 := by omega
      clear hbN HC HU HS hfp HL
      generalize p / 65536 = q at *
      generalize p % 65536 = r at *
      generalize hLL : bl N q = L at *
      generalize nb N = M at *
      clear hLL
      have hrL : ¬ L = r := by omega
      have hone2 : decide ((1 : Int) < (L : Int) - (r : Int)) = false := by simp; omega
      have hd2 : decide ((L : Int) - (r : Int) < 16) = true := by simp; omega
      go_enter Try.func32, Try.ntmps32
      go_wp2_with fail
      go_ret3
      exact ⟨Or.inl rfl, 0, rfl⟩

set_option maxHeartbeats 1000000 in
theorem zzshort_any (bt gb c : Nat) (gs f : Nat → Nat) (N p k : Nat) (t : List Nat) (w : World) (T : TapeAt w bt gb c gs f N) (hN : N ≤ 16777216) (hk : k ≤ 15) (hE : UvAt f p (enc k t)) (hp : p + (enc k t).length ≤ N) :
    Calls Try.prog 25 #[.pointer (some ⟨bt, 0, none⟩), .int .i64 p] w fun e w' => ShortSays w e k t t.length (enc k t).length ∧ ∃ nq, w' = w.drewN nq := by
  have C := hide (short_any bt gb c gs f N p k t w T hN hk hE hp)
  clear T hE hp
  go_enter Try.func25, Try.ntmps25
  go_wp2_with fail
  refine (unhide C).mono ?_
  rintro e w1 ⟨h, nq, hw⟩
  rw [hw]
  rcases h with rfl | ⟨ao, rfl, hh⟩
  · go_wp2_with fail
    go_ret3
    exact ⟨Or.inl rfl, _, rfl⟩
  · have HH := hide hh
    clear hh
    go_wp2_with fail
    go_ret3
    exact ⟨Or.inr ⟨ao, rfl, HH.out⟩, _, rfl⟩
end Go.Proofs.Qxb6604427a

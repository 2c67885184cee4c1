/-
  Reading a tape: at (33), uvarint (34), head (29).
-/
import Derived.Test.Qxb6604427aBlocks
import Derived.Laws.ShiftsVar
import Derived.Laws.ShiftsVarLaws
namespace Go.Proofs.Qxb6604427a
open Go Go.RowKit
set_option maxRecDepth 100000

/-- A tape of N bytes f 0, f 1, .. lies at block bt: its blocks' slices in block gb, block q's bytes in block gs q. -/
structure TapeAt (w : World) (bt gb c : Nat) (gs f : Nat → Nat) (N : Nat) : Prop where
  hd : w.cell? ⟨bt, 0, none⟩ = some (.slice (some ⟨gb, 0, none⟩) (nb N) c)
  bls : ∀ q, q < nb N → w.cell? ⟨gb, q, none⟩ = some (.slice (some ⟨gs q, 0, none⟩) (bl N q) (bl N q))
  bytes : Bytes w gs f N (nb N)

theorem at_form (N p : Nat) (h : p < N) : p / 65536 < nb N ∧ p % 65536 < bl N (p / 65536) := by unfold nb bl; omega

theorem TapeAt.cell {w : World} {bt gb c : Nat} {gs f : Nat → Nat} {N : Nat} (T : TapeAt w bt gb c gs f N) (p : Nat) (hp : p < N) : w.cell? ⟨gs (p / 65536), p % 65536, none⟩ = some (.int .u8 (f p : Int)) := by
  obtain ⟨h1, h2⟩ := at_form N p hp
  have h := T.bytes _ h1 _ h2
  rwa [Nat.div_add_mod' p 65536] at h

set_option maxHeartbeats 400000 in
theorem at_any (bt gb c : Nat) (gs f : Nat → Nat) (N p : Nat) (w : World) (T : TapeAt w bt gb c gs f N) (hp : p < N) (hN : N ≤ 16777216) :
    Calls Try.prog 33 #[.pointer (some ⟨bt, 0, none⟩), .int .i64 p] w fun e w' => e = .returned (.pointer (some ⟨gs (p / 65536), p % 65536, none⟩)) ∧ w' = w := by
  obtain ⟨h1, h2⟩ := at_form N p hp
  have c0 := T.hd
  have c1 := T.bls (p / 65536) h1
  have hand := and_65535 p (by omega)
  clear T
  generalize hq : p / 65536 = q at *
  generalize hr : p % 65536 = r at *
  have hp' : (p : Int) ≤ 16777216 := by omega
  have hsh : (p : Int) / 65536 = (q : Int) := by omega
  have hb : bl N q ≤ 65536 := by unfold bl; omega
  have hn : nb N ≤ 65536 := by unfold nb; omega
  clear hq hr
  go_enter Try.func33, Try.ntmps33
  go_wp2
  go_ret
  exact ⟨rfl, rfl⟩

/-- uvarint at p, where the bytes from p on are u's. -/
def UvAt (f : Nat → Nat) (p : Nat) (l : List Nat) : Prop := ∀ j (h : j < l.length), f (p + j) = l[j]

theorem or_step (acc d S : Nat) (ha : acc < 2 ^ S) (hd : d < 128) (hS : S ≤ 21) : bits .or .u64 (acc : Int) (IntKind.u64.wrap ((d : Int) * 2 ^ S)) = ((acc + d * 2 ^ S : Nat) : Int) := by
  have h1 : d * 2 ^ S < 128 * 2 ^ S := Nat.mul_lt_mul_of_pos_right hd (Nat.two_pow_pos _)
  have h2 : 2 ^ S ≤ 2 ^ 21 := Nat.pow_le_pow_right (by omega) hS
  have e : ((d : Int) * 2 ^ S) = ((d * 2 ^ S : Nat) : Int) := by simp
  rw [e, show IntKind.u64.wrap ((d * 2 ^ S : Nat) : Int) = ((d * 2 ^ S : Nat) : Int) by rw [IntKind.wrap_u64]; omega, or_acc acc d S ha (by omega) (by omega)]

theorem ret_two {k l : IntKind} {a b c d : Int} (h : a = c) (h' : b = d) : Ending.returned (.tuple #[.int k a, .int l b]) = .returned (.tuple #[.int k c, .int l d]) := by rw [h, h']

set_option maxHeartbeats 1000000 in
theorem uvarint_any (bt gb c : Nat) (gs f : Nat → Nat) (N p u : Nat) (w : World) (T : TapeAt w bt gb c gs f N) (hN : N ≤ 16777216) (hu : u < 268435456) (hU : UvAt f p (uv u)) (hp : p + (uv u).length ≤ N) :
    Calls Try.prog 34 #[.pointer (some ⟨bt, 0, none⟩), .int .i64 p] w fun e w' => e = .returned (.tuple #[.int .u64 u, .int .i64 ((p + (uv u).length : Nat) : Int)]) ∧ w' = w := by
  go_enter Try.func34, Try.ntmps34
  go_wp2
  go_loop [1, 4, 6] (fun pp n sh => ∃ (i x acc P S : Nat), pp = .int .i64 P ∧ n = .int .u64 acc ∧ sh = .int .i64 S ∧ Hid (P = p + i) ∧ Hid (S = 7 * i) ∧ Hid (acc + x * 2 ^ (7 * i) = u) ∧ Hid (acc < 2 ^ (7 * i)) ∧ Hid (UvAt f (p + i) (uv x)) ∧ Hid (i + (uv x).length = (uv u).length) ∧ P < N ∧ S ≤ 21) (fun pp _ _ => 33554432 - (intOf pp).toNat)
  case atStart =>
    have := uv_pos u
    exact ⟨0, u, 0, p, 0, rfl, rfl, rfl, rfl, rfl, (by show 0 + u * 2 ^ 0 = u; omega), (by show 0 < 2 ^ 0; omega), hU, (by show 0 + _ = _; omega), by omega, by omega⟩
  case round =>
    obtain ⟨i, x, acc, P, S, rfl, rfl, rfl, HP, HS, hacc, hlt, hUx, hlen, hPN, hS⟩ := hrel
    have hc : w.cell? ⟨gs (P / 65536), P % 65536, none⟩ = some (.int .u8 (f P : Int)) := T.cell P hPN
    have hfP : f P = (uv x)[0]'(uv_pos x) := by have := hUx.out 0 (uv_pos x); rw [HP.out]; exact this
    generalize hC : f P = C at hc hfP
    by_cases hx : x < 128
    · have hCx : C = x := by rw [hfP]; simp [uv_small hx]
      have hC2 : (C : Int) < 128 := by omega
      have hand := and_127 C (by omega)
      rw [Nat.mod_eq_of_lt (by omega)] at hand
      have HCX := hide hCx
      clear hfP hC hCx hx
      go_wp2_with fail
      refine (at_any bt gb c gs f N P w T hPN hN).mono ?_
      rintro e w1 ⟨rfl, rfl⟩
      go_wp2_with fail
      go_ret2
      have h1 := HS.out
      subst h1
      refine ⟨ret_two ?_ ?_, rfl⟩
      · rw [or_step acc C (7 * i) hlt.out (by omega) hS, HCX.out, hacc.out]
      · have h2 := hlen.out
        have h3 := HP.out
        have h4 := HCX.out
        rw [uv_small (show x < 128 by omega)] at h2
        simp only [List.length_cons, List.length_nil] at h2
        omega
    · have huv := uv_big hx
      have hCx : C = x % 128 + 128 := by rw [hfP]; simp [huv]
      have hC2 : ¬ (C : Int) < 128 := by omega
      have hC3 : (C : Int) < 256 := by omega
      obtain ⟨d, hd⟩ : ∃ d : Nat, d = C % 128 := ⟨_, rfl⟩
      have hand : bits .and .u8 (C : Int) 127 = (d : Int) := by rw [hd]; exact and_127 C (by omega)
      have hdl : d < 128 := by omega
      have HD := hide (show d = x % 128 by omega)
      have HUV := hide huv
      have hP2 : P + 1 < N := by
        have h2 := hlen.out
        have h3 := HP.out
        have h4 := uv_pos (x / 128)
        rw [huv] at h2
        simp only [List.length_cons] at h2
        omega
      have hS2 : S + 7 ≤ 21 := by
        have h1 := HS.out
        have h2 := hacc.out
        by_cases hi : i ≤ 2
        · omega
        · exfalso
          have h3 : 2 ^ 21 ≤ 2 ^ (7 * i) := Nat.pow_le_pow_right (by omega) (by omega)
          have h4 : 128 * 2 ^ 21 ≤ x * 2 ^ (7 * i) := Nat.mul_le_mul (by omega) h3
          omega
      clear hfP hC hCx hd huv
      go_wp2_with fail
      refine (at_any bt gb c gs f N P w T hPN hN).mono ?_
      rintro e w1 ⟨rfl, rfl⟩
      go_wp2_with fail
      have h1 := HS.out
      subst h1
      obtain ⟨a1, a2⟩ := uv_acc acc x d i u hacc.out hlt.out HD.out
      refine ⟨⟨i + 1, x / 128, acc + d * 2 ^ (7 * i), P + 1, 7 * i + 7, by go_num, ?_, by go_num, ?_, ?_, a1, a2, ?_, ?_, hP2, hS2⟩, ?_⟩
      · rw [or_step acc d (7 * i) hlt.out hdl hS]
      · show P + 1 = p + (i + 1)
        have := HP.out; omega
      · show 7 * i + 7 = 7 * (i + 1)
        omega
      · intro j hj
        have h := hUx.out (j + 1) (by rw [HUV.out]; simpa using hj)
        rw [show p + (i + 1) + j = p + i + (j + 1) by omega, h]
        simp [HUV.out]
      · show i + 1 + _ = _
        have h2 := hlen.out
        rw [HUV.out] at h2
        simp only [List.length_cons] at h2
        omega
      · simp [intOf]; omega
end Go.Proofs.Qxb6604427a

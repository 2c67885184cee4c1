/-
  (*Decoder).levelOf (9) and ZZlevelOf (7): read two cells, answer the truncated quotient.
-/
import Derived.Test.Qxb6604427aDoorMul
namespace Go.Proofs.Qxb6604427aDoor
open Go.RowKit

/-- The multiplier's law (Lemire, Kaser, Kurz): no Go in sight. -/
theorem lemire_core (M m d n q s r : Nat) (hd : 0 < d) (hr : m * d = M + r) (hq : d * q + s = n) (hs : s < d) (hnr : n * r < M) : q * M ≤ m * n ∧ m * n < (q + 1) * M := by
  have e : m * n * d = n * M + n * r := by rw [Nat.mul_right_comm, hr, Nat.add_mul, Nat.mul_comm M n, Nat.mul_comm r n]
  constructor
  · refine Nat.le_of_mul_le_mul_right (c := d) ?_ hd
    rw [e]
    have h1 : q * M * d = d * q * M := by rw [Nat.mul_right_comm, Nat.mul_comm q d]
    rw [h1]
    have := Nat.mul_le_mul_right M (show d * q ≤ n by omega)
    omega
  · refine Nat.lt_of_mul_lt_mul_right (a := d) ?_
    rw [e]
    have h2 : (q + 1) * M * d = (d * q + d) * M := by rw [Nat.mul_right_comm, Nat.add_mul, Nat.one_mul, Nat.mul_comm q d]
    rw [h2]
    have := Nat.mul_le_mul_right M (show n + 1 ≤ d * q + d by omega)
    rw [Nat.add_mul, Nat.one_mul] at this
    omega

theorem lemire (d n : Nat) (hd : 0 < d) (hd2 : d ≤ 4294967295) (hn : n ≤ 4294967295) : (18446744073709551615 / d + 1) * n / 18446744073709551616 = n / d := by
  have hm : ∃ r, (18446744073709551615 / d + 1) * d = 18446744073709551616 + r ∧ r < d := by
    refine ⟨d - 1 - 18446744073709551615 % d, ?_, by omega⟩
    have h1 := Nat.div_add_mod 18446744073709551615 d
    have h2 := Nat.mod_lt 18446744073709551615 hd
    rw [Nat.add_mul, Nat.mul_comm (18446744073709551615 / d) d]
    omega
  obtain ⟨r, hr, hrd⟩ := hm
  have hnr : n * r < 18446744073709551616 := by
    have : n * r ≤ 4294967295 * 4294967295 := Nat.mul_le_mul hn (by omega)
    omega
  obtain ⟨lo, hi⟩ := lemire_core 18446744073709551616 _ d n (n / d) (n % d) r hd hr (Nat.div_add_mod n d) (Nat.mod_lt n hd) hnr
  generalize (18446744073709551615 / d + 1) * n = z at *
  omega

theorem ret_int {k : IntKind} {a b : Int} (h : a = b) : Ending.returned (.int k a) = .returned (.int k b) := by rw [h]

set_option maxHeartbeats 400000 in
theorem level_fast (b : Nat) (per width : Nat) (w : World) (h0 : w.cell? ⟨b, 18, none⟩ = some (.int .u64 per))
    (hp : (((per : Int)) != 0) = true) (hpl : per < 18446744073709551616) (hw : width ≤ 4294967295) (hr : per * width / 18446744073709551616 ≤ 4294967295) :
    Calls Tryd.prog 9 #[.pointer (some ⟨b, 0, none⟩), .int .i64 width] w fun e w' => e = .returned (.int .i64 ((per * width / 18446744073709551616 : Nat) : Int)) ∧ w' = w := by
  go_enter Tryd.func9, Tryd.ntmps9
  go_wp2_with (go_at_call 12; refine (mul64 per width hpl (by omega) _).mono ?_; rintro e w' ⟨rfl, rfl⟩)
  go_ret
  exact ⟨ret_int (by simp), rfl⟩

set_option maxHeartbeats 400000 in
theorem level_slow0 (b : Nat) (width : Int) (ind : Int) (w : World) (h0 : w.cell? ⟨b, 18, none⟩ = some (.int .u64 0)) (h1 : w.cell? ⟨b, 17, none⟩ = some (.int .i64 ind))
    (hi : 0 < ind) (hw1 : -9223372036854775808 ≤ width) (hw2 : width ≤ 9223372036854775807) :
    Calls Tryd.prog 9 #[.pointer (some ⟨b, 0, none⟩), .int .i64 width] w fun e w' => e = .returned (.int .i64 (width.tdiv ind)) ∧ w' = w := by
  go_enter Tryd.func9, Tryd.ntmps9
  go_wp2_with fail
  go_ret
  exact ⟨rfl, rfl⟩

set_option maxHeartbeats 400000 in
theorem level_slow1 (b : Nat) (per : Nat) (width : Int) (ind : Int) (w : World) (h0 : w.cell? ⟨b, 18, none⟩ = some (.int .u64 per)) (h1 : w.cell? ⟨b, 17, none⟩ = some (.int .i64 ind))
    (hi : 0 < ind) (hp : (((per : Int)) != 0) = true) (hw1 : -9223372036854775808 ≤ width) (hw2 : width ≤ 9223372036854775807) (hw : width < 0 ∨ 4294967295 < width) :
    Calls Tryd.prog 9 #[.pointer (some ⟨b, 0, none⟩), .int .i64 width] w fun e w' => e = .returned (.int .i64 (width.tdiv ind)) ∧ w' = w := by
  have hx : 4294967295 < IntKind.u64.wrap width := by rw [IntKind.wrap_u64]; omega
  rcases hw with hw | hw
  all_goals
    go_enter Tryd.func9, Tryd.ntmps9
    go_wp2_with fail
    go_ret
    exact ⟨by first | rfl | exact ret_int (Int.tdiv_eq_ediv_of_nonneg (by omega)).symm, rfl⟩

/-- What perLevel holds for an indent. -/
def perOf (ind : Nat) : Nat := if 1 < ind ∧ ind ≤ 4294967295 then 18446744073709551615 / ind + 1 else 0

theorem perOf_lt (ind : Nat) : perOf ind < 18446744073709551616 := by
  unfold perOf; split
  · have := Nat.div_le_div_left (a := 18446744073709551615) (show 2 ≤ ind by omega) (by omega); omega
  · omega

/-- levelOf, whatever the width: the truncated quotient. -/
theorem level_any (b : Nat) (ind : Nat) (width : Int) (w : World) (h0 : w.cell? ⟨b, 18, none⟩ = some (.int .u64 (perOf ind))) (h1 : w.cell? ⟨b, 17, none⟩ = some (.int .i64 ind))
    (hi : 0 < ind) (hw1 : -9223372036854775808 ≤ width) (hw2 : width ≤ 9223372036854775807) :
    Calls Tryd.prog 9 #[.pointer (some ⟨b, 0, none⟩), .int .i64 width] w fun e w' => e = .returned (.int .i64 (width.tdiv ind)) ∧ w' = w := by
  by_cases hc : 1 < ind ∧ ind ≤ 4294967295
  · have hpe : perOf ind = 18446744073709551615 / ind + 1 := by unfold perOf; rw [if_pos hc]
    have hne : (((perOf ind : Nat) : Int) != 0) = true := by rw [bne_iff_ne, hpe]; generalize 18446744073709551615 / ind = z; omega
    by_cases hw : width < 0 ∨ 4294967295 < width
    · exact level_slow1 b (perOf ind) width ind w h0 h1 (by omega) hne hw1 hw2 hw
    · obtain ⟨n, rfl⟩ := Int.eq_ofNat_of_zero_le (show 0 ≤ width by omega)
      have hl := lemire ind n hi hc.2 (by omega)
      rw [← hpe] at hl
      have hq : n / ind ≤ 4294967295 := Nat.le_trans (Nat.div_le_self _ _) (by omega)
      refine (level_fast b (perOf ind) n w h0 hne (perOf_lt ind) (by omega) (by omega)).mono ?_
      rintro e w' ⟨rfl, rfl⟩
      rw [hl]
      exact ⟨ret_int (by rw [Int.ofNat_tdiv]), rfl⟩
  · have hpe : perOf ind = 0 := by unfold perOf; rw [if_neg hc]
    rw [hpe] at h0
    exact level_slow0 b width ind w h0 h1 (by omega) hw1 hw2

/-- ZZlevelOf. -/
theorem zz_any (b : Nat) (ind : Nat) (width : Int) (w : World) (h0 : w.cell? ⟨b, 18, none⟩ = some (.int .u64 (perOf ind))) (h1 : w.cell? ⟨b, 17, none⟩ = some (.int .i64 ind))
    (hi : 0 < ind) (hw1 : -9223372036854775808 ≤ width) (hw2 : width ≤ 9223372036854775807) :
    Calls Tryd.prog 7 #[.pointer (some ⟨b, 0, none⟩), .int .i64 width] w fun e w' => e = .returned (.int .i64 (width.tdiv ind)) ∧ w' = w := by
  go_enter Tryd.func7, Tryd.ntmps7
  go_wp2_with (go_at_call 9; refine (level_any b ind width _ h0 h1 hi hw1 hw2).mono ?_; rintro e w' ⟨rfl, rfl⟩)
  go_ret
  exact ⟨rfl, rfl⟩
end Go.Proofs.Qxb6604427aDoor

/-
  The two laws walked: FnLevelOfIsWholeLevels (3), FnLevelOfStepsOneLevelPerIndent (4).
-/
import Derived.Test.Qxb6604427aDoorMake
import Derived.Deep.QuietTactic
import Derived.BigQuiet
namespace Go.Proofs.Qxb6604427aDoor
open Go.RowKit
set_option maxRecDepth 100000

theorem eff_at (ind : Int) (eff : Nat) (w : World) (he : (if ind ≤ 0 then 2 else ind) = (eff : Int)) : Calls Tryd.prog 5 #[.int .i64 ind] w fun e w' => e = .returned (.int .i64 eff) ∧ w' = w := by
  rw [← he]; exact eff_any ind w

theorem ret_bool {b : Bool} (h : b = true) : Ending.returned (.bool b) = .returned (.bool true) := by rw [h]

theorem eff_ex (ind : Int) (h : ind ≤ 9223372036854775807) : ∃ eff : Nat, (if ind ≤ 0 then 2 else ind) = (eff : Int) ∧ eff ≤ 9223372036854775807 ∧ 0 < eff := by
  by_cases hi : ind ≤ 0
  · exact ⟨2, by rw [if_pos hi]; rfl, by omega, by omega⟩
  · exact ⟨ind.toNat, by rw [if_neg hi]; omega, by omega, by omega⟩

set_option maxHeartbeats 1000000 in
theorem law_whole (ind width : Int) (T : Nat) (a : Option Addr) (w : World) (hE : w.cell? ⟨0, 0, none⟩ = some (.iface T (.pointer a)))
    (hi2 : ind ≤ 9223372036854775807) (hw1 : -9223372036854775808 ≤ width) (hw2 : width ≤ 9223372036854775807) :
    Calls Tryd.prog 3 #[.int .i64 ind, .int .i64 width] w fun e w' => e = .returned (.bool true) ∧ Below w.heap.size w w' := by
  obtain ⟨eff, he, hel, he0⟩ := eff_ex ind hi2
  have HE := hide he
  clear he
  have he1 : (0 : Int) < (eff : Int) := by omega
  go_enter Tryd.func3, Tryd.ntmps3
  go_wp2_with fail
  refine (eff_at ind eff _ (unhide HE)).mono ?_
  rintro e w' ⟨rfl, rfl⟩
  go_wp2_with fail
  refine (make_any ind eff T a _ hE (unhide HE) hel).mono ?_
  rintro e w2 ⟨rfl, c17, c18, hB⟩
  go_wp2_with fail
  go_quiet ((go_at_call 7; exact Calls.quiet_of_same (zz_any _ eff width _ c18 c17 he0 hw1 hw2)))
  go_wp2
  go_ret
  exact ⟨rfl, below_drewN hB nq⟩

/-- At a width that is no less than nothing. -/
theorem zz_nat (b : Nat) (eff n q : Nat) (w : World) (h0 : w.cell? ⟨b, 18, none⟩ = some (.int .u64 (perOf eff))) (h1 : w.cell? ⟨b, 17, none⟩ = some (.int .i64 eff))
    (hi : 0 < eff) (width : Int) (hw : width = (n : Int)) (hn : n ≤ 9223372036854775807) (hq : n / eff = q) :
    Calls Tryd.prog 7 #[.pointer (some ⟨b, 0, none⟩), .int .i64 width] w fun e w' => e = .returned (.int .i64 q) ∧ w' = w := by
  subst hw
  refine (zz_any b eff n w h0 h1 hi (by omega) (by omega)).mono ?_
  rintro e w' ⟨rfl, rfl⟩
  exact ⟨ret_int (by rw [← hq, Int.ofNat_tdiv]), rfl⟩

set_option maxHeartbeats 1000000 in
theorem law_steps_out (ind width : Int) (w : World) (hw1 : -9223372036854775808 ≤ width) (hw2 : width ≤ 9223372036854775807) (eff : Nat) (he : (if ind ≤ 0 then 2 else ind) = (eff : Int)) (hel : eff ≤ 9223372036854775807) (he0 : 0 < eff)
    (ho : width < 0 ∨ 9223372036854775807 - (eff : Int) < width) :
    Calls Tryd.prog 4 #[.int .i64 ind, .int .i64 width] w fun e w' => e = .returned (.bool true) ∧ Below w.heap.size w w' := by
  have HE := hide he
  clear he
  by_cases hw : width < 0
  · go_enter Tryd.func4, Tryd.ntmps4
    go_wp2_with fail
    refine (eff_at ind eff _ (unhide HE)).mono ?_
    rintro e w' ⟨rfl, rfl⟩
    go_wp2_with fail
    go_ret
    exact ⟨rfl, Below.refl _ _⟩
  · have ho' : 9223372036854775807 - (eff : Int) < width := by omega
    clear ho
    go_enter Tryd.func4, Tryd.ntmps4
    go_wp2_with fail
    refine (eff_at ind eff _ (unhide HE)).mono ?_
    rintro e w' ⟨rfl, rfl⟩
    go_wp2_with fail
    go_ret
    exact ⟨rfl, Below.refl _ _⟩

set_option maxHeartbeats 1000000 in
theorem law_steps_in (ind : Int) (n : Nat) (T : Nat) (a : Option Addr) (w : World) (hE : w.cell? ⟨0, 0, none⟩ = some (.iface T (.pointer a)))
    (eff : Nat) (he : (if ind ≤ 0 then 2 else ind) = (eff : Int)) (hel : (eff : Int) ≤ 9223372036854775807) (he0 : (0 : Int) < (eff : Int))
    (ho : (n : Int) ≤ 9223372036854775807 - (eff : Int)) :
    Calls Tryd.prog 4 #[.int .i64 ind, .int .i64 n] w fun e w' => e = .returned (.bool true) ∧ Below w.heap.size w w' := by
  have HE := hide he
  clear he
  have hq1 : (n + eff) / eff = n / eff + 1 := Nat.add_div_right n (by omega)
  have hle : n / eff ≤ n := Nat.div_le_self _ _
  have H0 := hide (Nat.zero_div eff)
  have H1 := hide (Nat.div_eq_of_lt (show eff - 1 < eff by omega))
  have H2 := hide (Nat.div_self (show 0 < eff by omega))
  generalize hq : n / eff = q at hq1 hle
  have HQ := hide hq
  have HQ1 := hide hq1
  clear hq hq1
  go_enter Tryd.func4, Tryd.ntmps4
  go_wp2_with fail
  refine (eff_at ind eff _ (unhide HE)).mono ?_
  rintro e w' ⟨rfl, rfl⟩
  go_wp2_with fail
  refine (make_any ind eff T a _ hE (unhide HE) (by omega)).mono ?_
  rintro e w2 ⟨rfl, c17, c18, hB⟩
  go_wp2_with fail
  refine (zz_nat _ eff n q _ c18 c17 (by omega) _ rfl (by omega) (unhide HQ)).mono ?_
  rintro e w3 ⟨rfl, rfl⟩
  go_wp2_with fail
  refine (zz_nat _ eff (n + eff) (q + 1) _ c18 c17 (by omega) _ (by omega) (by omega) (unhide HQ1)).mono ?_
  rintro e w4 ⟨rfl, rfl⟩
  go_wp2_with fail
  refine (zz_nat _ eff 0 0 _ c18 c17 (by omega) _ (by omega) (by omega) (unhide H0)).mono ?_
  rintro e w5 ⟨rfl, rfl⟩
  go_wp2_with fail
  refine (zz_nat _ eff (eff - 1) 0 _ c18 c17 (by omega) _ (by omega) (by omega) (unhide H1)).mono ?_
  rintro e w6 ⟨rfl, rfl⟩
  go_wp2_with fail
  refine (zz_nat _ eff eff 1 _ c18 c17 (by omega) _ (by omega) (by omega) (unhide H2)).mono ?_
  rintro e w7 ⟨rfl, rfl⟩
  go_wp2_with fail
  go_ret
  exact ⟨ret_bool (by rw [beq_iff_eq]; omega), hB⟩

theorem law_steps (ind width : Int) (T : Nat) (a : Option Addr) (w : World) (hE : w.cell? ⟨0, 0, none⟩ = some (.iface T (.pointer a)))
    (hi2 : ind ≤ 9223372036854775807) (hw1 : -9223372036854775808 ≤ width) (hw2 : width ≤ 9223372036854775807) :
    Calls Tryd.prog 4 #[.int .i64 ind, .int .i64 width] w fun e w' => e = .returned (.bool true) ∧ Below w.heap.size w w' := by
  obtain ⟨eff, he, hel, he0⟩ := eff_ex ind hi2
  by_cases ho : width < 0 ∨ 9223372036854775807 - (eff : Int) < width
  · exact law_steps_out ind width w hw1 hw2 eff he hel he0 ho
  · obtain ⟨n, rfl⟩ := Int.eq_ofNat_of_zero_le (show 0 ≤ width by omega)
    exact law_steps_in ind n T a w hE eff he (by omega) (by omega) (by omega)
end Go.Proofs.Qxb6604427aDoor

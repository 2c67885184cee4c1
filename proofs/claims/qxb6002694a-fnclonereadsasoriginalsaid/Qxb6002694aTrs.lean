/-
  The guards of FnPhasesAreExactlyTheNamedPhases: zzBytes_.. (14), transitionsSizeOK (15); cloneTransitions (16), toRegistryTransitions (18).
-/
import Derived.Test.Qxb6002694aBase
namespace Go.Proofs.Qxb6002694a
open Go Go.RowKit
set_option maxRecDepth 100000
attribute [local go_sem ↓] Go.wp_at_zero Go.wp_at_succ

set_option maxHeartbeats 2000000 in
theorem bytes14 (ao : Option Addr) (cap n : Nat) (l : List Tr) (w : World) (hI : Trs w ao l) (hn : l.length = n) (hm : n ≤ maxLen) (hs : ∀ j (h : j < l.length), l[j].1.size ≤ maxLen ∧ l[j].2.1.size ≤ maxLen ∧ l[j].2.2.size ≤ maxLen) :
    Calls Try.prog 14 #[.slice ao n cap] w fun e w' => Says e True ∧ w' = w := by
  unfold maxLen at hm
  by_cases hn1 : (n : Int) ≤ 1048576
  · go_enter Try.func14, Try.ntmps14
    go_wp2
    go_loop [3, 4] (fun z i => ∃ j zz : Nat, j ≤ n ∧ i = .int .i64 j ∧ z = .int .i64 zz ∧ zz ≤ 1048576) (fun _ i => n - (intOf i).toNat)
    case atStart => exact ⟨0, n, Nat.zero_le _, rfl, by go_num, by omega⟩
    case round =>
      obtain ⟨j, zz, hj, rfl, rfl, hzl⟩ := hrel
      by_cases hlt : (j : Int) < (n : Int)
      · have hj' : j < l.length := by omega
        rcases hI with h0 | ⟨b, off, rfl, hI⟩
        · subst h0; simp at hj'
        obtain ⟨c0, c1, c2⟩ := hI j hj'
        obtain ⟨z0, z1, z2⟩ := hs j hj'
        unfold maxLen at z0 z1 z2
        generalize l[j] = x at *
        obtain ⟨s0, s1, s2⟩ := x
        simp only at c0 c1 c2 z0 z1 z2
        clear hI hs
        by_cases h0 : (s0.size : Int) ≤ 1048576
        · by_cases h1 : (zz : Int) + (s0.size : Int) ≤ 1048576
          · by_cases h2 : (s1.size : Int) ≤ 1048576
            · by_cases h3 : (zz : Int) + (s0.size : Int) + (s1.size : Int) ≤ 1048576
              · by_cases h4 : (s2.size : Int) ≤ 1048576
                · by_cases h5 : (zz : Int) + (s0.size : Int) + (s1.size : Int) + (s2.size : Int) ≤ 1048576
                  · go_wp2
                    go_round
                    case rel => exact ⟨j + 1, zz + s0.size + s1.size + s2.size, by omega, by go_num, by go_num, by omega⟩
                    case measure => simp [intOf]; omega
                  · go_wp2
                    go_ret
                    exact ⟨Says.no, rfl⟩
                · go_wp2
                  go_ret
                  exact ⟨Says.no, rfl⟩
              · go_wp2
                go_ret
                exact ⟨Says.no, rfl⟩
            · go_wp2
              go_ret
              exact ⟨Says.no, rfl⟩
          · go_wp2
            go_ret
            exact ⟨Says.no, rfl⟩
        · go_wp2
          go_ret
          exact ⟨Says.no, rfl⟩
      · go_wp2
        go_ret
        exact ⟨Says.yes trivial, rfl⟩
  · go_enter Try.func14, Try.ntmps14
    go_wp2
    go_ret
    exact ⟨Says.no, rfl⟩

/-- A bounded sum. -/
def Bnd (e : Ending) : Prop := ∃ r : Nat, e = .returned (.int .i64 (r : Int)) ∧ r ≤ 2097152

set_option maxHeartbeats 1000000 in
theorem add24 (t n : Nat) (w : World) (ht : (t : Int) ≤ 2097152) (hn : n ≤ maxLen) : Calls Try.prog 24 #[.int .i64 t, .int .i64 n] w fun e w' => Bnd e ∧ w' = w := by
  unfold maxLen at hn
  have h0 : decide ((n : Int) < 0) = false := by simp
  by_cases h1 : (1048576 : Int) < (n : Int)
  · go_enter Try.func24, Try.ntmps24
    go_wp2
    go_ret
    exact ⟨⟨1048577, rfl, by omega⟩, rfl⟩
  · by_cases h2 : (1048576 : Int) < (t : Int)
    · go_enter Try.func24, Try.ntmps24
      go_wp2
      go_ret
      exact ⟨⟨1048577, rfl, by omega⟩, rfl⟩
    · go_enter Try.func24, Try.ntmps24
      go_wp2
      go_ret
      exact ⟨⟨t + n, by go_num, by omega⟩, rfl⟩

set_option maxHeartbeats 2000000 in
theorem size15 (ao : Option Addr) (cap n : Nat) (l : List Tr) (w : World) (hI : Trs w ao l) (hn : l.length = n) (hs : ∀ j (h : j < l.length), l[j].1.size ≤ maxLen ∧ l[j].2.1.size ≤ maxLen ∧ l[j].2.2.size ≤ maxLen) :
    Calls Try.prog 15 #[.slice ao n cap] w fun e w' => Says e (n ≤ 65536) ∧ w' = w := by
  by_cases hn1 : (65536 : Int) < (n : Int)
  · go_enter Try.func15, Try.ntmps15
    go_wp2_with fail
    go_ret
    exact ⟨Says.no, rfl⟩
  · go_enter Try.func15, Try.ntmps15
    go_wp2_with fail
    go_loop [3, 4] (fun z i => ∃ j zz : Nat, j ≤ n ∧ i = .int .i64 j ∧ z = .int .i64 zz ∧ (zz : Int) ≤ 2097152) (fun _ i => n - (intOf i).toNat)
    case atStart => exact ⟨0, 0, Nat.zero_le _, rfl, rfl, by omega⟩
    case round =>
      obtain ⟨j, zz, hj, rfl, rfl, hzl⟩ := hrel
      by_cases hlt : (j : Int) < (n : Int)
      · have hj' : j < l.length := by omega
        rcases hI with h0 | ⟨b, off, rfl, hI⟩
        · subst h0; simp at hj'
        obtain ⟨c0, c1, c2⟩ := hI j hj'
        obtain ⟨z0, z1, z2⟩ := hs j hj'
        generalize l[j] = x at *
        obtain ⟨s0, s1, s2⟩ := x
        simp only at c0 c1 c2 z0 z1 z2
        clear hI hs
        go_wp2_with fail
        refine (add24 zz 48 w hzl (by unfold maxLen; omega)).mono ?_
        rintro e w1 ⟨⟨r, rfl, hr⟩, rfl⟩
        go_wp2_with fail
        refine (add24 r s0.size w1 (by omega) z0).mono ?_
        rintro e w2 ⟨⟨r2, rfl, hr2⟩, rfl⟩
        go_wp2_with fail
        refine (add24 r2 s1.size w2 (by omega) z1).mono ?_
        rintro e w3 ⟨⟨r3, rfl, hr3⟩, rfl⟩
        go_wp2_with fail
        refine (add24 r3 s2.size w3 (by omega) z2).mono ?_
        rintro e w4 ⟨⟨r4, rfl, hr4⟩, rfl⟩
        go_wp2_with fail
        go_round
        case rel => exact ⟨j + 1, r4, by omega, by go_num, rfl, by omega⟩
        case measure => simp [intOf]; omega
      · go_wp2_with fail
        go_ret
        exact ⟨⟨_, rfl, fun _ => by omega⟩, rfl⟩
end Go.Proofs.Qxb6002694a

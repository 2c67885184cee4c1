/-
  zzSameText (11), zzSameBytes (23): equal bytes are told equal.
-/
import Derived.Test.Qxb6604427aClone
import Derived.Deep.QuietTactic
import Derived.BigQuiet
namespace Go.Proofs.Qxb6604427a
open Go Go.RowKit
set_option maxRecDepth 100000

theorem holds_shape {w : World} {v : Value} {l : List Nat} (h : Holds w v l) : ∃ ao c, v = .slice ao l.length c := by
  rcases h with ⟨rfl, ao, c, rfl⟩ | ⟨g, o, c, rfl, _⟩
  · exact ⟨_, _, rfl⟩
  · exact ⟨_, _, rfl⟩
theorem bs_get (s : ByteArray) (j : Nat) (h : j < s.size) : (bs s)[j]'(by rw [bs_len]; exact h) = (s[j]'h).toNat := by simp [bs]; rfl
theorem cell_drewN (w : World) (n : Nat) (a : Addr) : (w.drewN n).cell? a = w.cell? a := rfl

set_option maxHeartbeats 1000000 in
theorem sameText_any (v : Value) (s : ByteArray) (w : World) (hH : Holds w v (bs s)) (hm : (s.size : Int) ≤ 1073741824) :
    Calls Try.prog 11 #[v, .string s] w fun e w' => e = .returned (.bool true) ∧ ∃ nq, w' = w.drewN nq := by
  obtain ⟨ao, c, rfl⟩ := holds_shape hH
  rw [bs_len] at hH ⊢
  have hne : (((s.size : Nat) : Int) != ((s.size : Nat) : Int)) = false := by simp
  go_enter Try.func11, Try.ntmps11
  go_wp2
  go_loopw [5] (fun i wr => ∃ j nq : Nat, j ≤ s.size ∧ i = .int .i64 j ∧ wr = w.drewN nq) (fun i _ => s.size - (intOf i).toNat)
  case atStart => exact ⟨0, 0, Nat.zero_le _, rfl, rfl⟩
  case round =>
    obtain ⟨j, nq, hj, rfl, rfl⟩ := hrel
    by_cases hlt : (j : Int) < (s.size : Int)
    · have hj' : j < s.size := by omega
      rcases hH with ⟨h0, _⟩ | ⟨g, o, c', hv, hI⟩
      · exfalso; have h1 := congrArg List.length h0; rw [bs_len] at h1; simp only [List.length_nil] at h1; omega
      simp only [Value.slice.injEq] at hv
      obtain ⟨rfl, hv2, rfl⟩ := hv
      clear hv2
      have hc : w.cell? ⟨g, o + j, none⟩ = some (.int .u8 ((s[j]'hj').toNat : Int)) := by
        rw [hI j (by rw [bs_len]; exact hj'), bs_get s j hj']
      clear hI
      go_wp2_with fail
      go_quiet (fail)
      go_wp2
      go_roundw
      case rel => exact ⟨j + 1, _, by omega, by go_num, rfl⟩
      case measure => simp [intOf]; omega
    · go_wp2
      go_ret
      exact ⟨rfl, nq, rfl⟩

set_option maxHeartbeats 1000000 in
theorem sameBytes_any (v v' : Value) (l : List Nat) (w : World) (hH : Holds w v l) (hH' : Holds w v' l) (n : Nat) (hn : l.length = n) (hm : (n : Int) ≤ 1073741824) :
    Calls Try.prog 23 #[v, v'] w fun e w' => e = .returned (.bool true) ∧ ∃ nq, w' = w.drewN nq := by
  obtain ⟨ao, c, rfl⟩ := holds_shape hH
  obtain ⟨ao', c', rfl⟩ := holds_shape hH'
  have HN := hide hn
  rw [hn] at hH hH' ⊢
  clear hn
  have hne : ((n : Int) != (n : Int)) = false := by simp
  go_enter Try.func23, Try.ntmps23
  go_wp2
  go_loopw [5] (fun i wr => ∃ j nq : Nat, j ≤ n ∧ i = .int .i64 j ∧ wr = w.drewN nq) (fun i _ => n - (intOf i).toNat)
  case atStart => exact ⟨0, 0, Nat.zero_le _, rfl, rfl⟩
  case round =>
    obtain ⟨j, nq, hj, rfl, rfl⟩ := hrel
    by_cases hlt : (j : Int) < (n : Int)
    · have hj' : j < l.length := by rw [HN.out]; omega
      rcases hH with ⟨h0, _⟩ | ⟨g, o, c1, hv, hI⟩
      · subst h0; simp at hj'
      rcases hH' with ⟨h0, _⟩ | ⟨g', o', c2, hv', hI'⟩
      · subst h0; simp at hj'
      simp only [Value.slice.injEq] at hv hv'
      obtain ⟨rfl, hv2, rfl⟩ := hv
      obtain ⟨rfl, hv3, rfl⟩ := hv'
      clear hv2 hv3
      have hc := hI j hj'
      have hc' := hI' j hj'
      clear hI hI'
      generalize l[j] = k at *
      go_wp2_with fail
      go_quiet (fail)
      go_wp2
      go_roundw
      case rel => exact ⟨j + 1, _, by omega, by go_num, rfl⟩
      case measure => simp [intOf]; omega
    · go_wp2
      go_ret
      exact ⟨rfl, nq, rfl⟩
end Go.Proofs.Qxb6604427a

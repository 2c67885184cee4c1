/-
  The plain side: the phases that a list of transitions names. No Go here.
-/
namespace Go.Proofs.Qxb6002694a

/-- A transition: from, event, to. -/
abbrev Tr := ByteArray × ByteArray × ByteArray

/-- The word that is no phase. -/
def noPhase : ByteArray := ⟨#[110, 111, 110, 101]⟩

/-- The k-th phase named. -/
def ep (ts : List Tr) (k : Nat) : ByteArray := if k % 2 = 0 then (ts.getD (k / 2) default).1 else (ts.getD (k / 2) default).2.2

open Classical in
/-- One phase more, where it is new. -/
noncomputable def addp (L : List ByteArray) (s : ByteArray) : List ByteArray := if s ≠ noPhase ∧ s ∉ L then L ++ [s] else L

/-- The phases of the first k names. -/
noncomputable def ph (ts : List Tr) : Nat → List ByteArray
  | 0 => []
  | k + 1 => addp (ph ts k) (ep ts k)

theorem addp_len (L : List ByteArray) (s : ByteArray) : (addp L s).length ≤ L.length + 1 := by
  unfold addp; split <;> simp
theorem ph_len (ts : List Tr) (k : Nat) : (ph ts k).length ≤ k := by
  induction k with
  | zero => simp [ph]
  | succ k ih => have := addp_len (ph ts k) (ep ts k); simp only [ph]; omega
theorem mem_addp (L : List ByteArray) (s x : ByteArray) (h : x ∈ addp L s) : x ∈ L ∨ (x = s ∧ s ≠ noPhase) := by
  unfold addp at h
  split at h
  · rename_i hc
    rcases List.mem_append.1 h with h | h
    · exact Or.inl h
    · simp at h
      exact Or.inr ⟨h, hc.1⟩
  · exact Or.inl h
theorem ph_mem (ts : List Tr) (k : Nat) (x : ByteArray) (h : x ∈ ph ts k) : x ≠ noPhase ∧ ∃ j, j < k ∧ ep ts j = x := by
  induction k with
  | zero => simp [ph] at h
  | succ k ih =>
    rcases mem_addp _ _ _ h with h1 | ⟨h2, h3⟩
    · obtain ⟨h1, j, h2, h3⟩ := ih h1
      exact ⟨h1, j, by omega, h3⟩
    · exact ⟨h2 ▸ h3, k, by omega, h2.symm⟩
theorem addp_sub (L : List ByteArray) (s x : ByteArray) (h : x ∈ L) : x ∈ addp L s := by
  unfold addp; split
  · exact List.mem_append_left _ h
  · exact h
theorem addp_self (L : List ByteArray) (s : ByteArray) (h : s ≠ noPhase) : s ∈ addp L s := by
  unfold addp
  by_cases hL : s ∈ L
  · rw [if_neg (fun hc => hc.2 hL)]; exact hL
  · rw [if_pos ⟨h, hL⟩]; simp
theorem ph_all (ts : List Tr) (k j : Nat) (hj : j < k) (h : ep ts j ≠ noPhase) : ep ts j ∈ ph ts k := by
  induction k with
  | zero => omega
  | succ k ih =>
    by_cases e : j = k
    · subst e; exact addp_self _ _ h
    · exact addp_sub _ _ _ (ih (by omega))
theorem ph_nodup (ts : List Tr) (k : Nat) : (ph ts k).Nodup := by
  induction k with
  | zero => simp [ph]
  | succ k ih =>
    show (addp _ _).Nodup
    unfold addp
    split
    · rename_i hc
      rw [List.nodup_append]
      refine ⟨ih, by simp, ?_⟩
      intro a ha b hb
      simp at hb
      subst hb
      exact fun e => hc.2 (e ▸ ha)
    · exact ih
theorem ph_ne (ts : List Tr) (k i j : Nat) (hi : i < (ph ts k).length) (hj : j < i) : (ph ts k)[j]'(by omega) ≠ (ph ts k)[i] := by
  have h := ph_nodup ts k
  rw [List.Nodup, List.pairwise_iff_getElem] at h
  exact h j i (by omega) hi hj
end Go.Proofs.Qxb6002694a

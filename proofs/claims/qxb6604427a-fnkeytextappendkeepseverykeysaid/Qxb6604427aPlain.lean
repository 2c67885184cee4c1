/-
  The plain side: the tape's item format on lists of numbers. No Go here.
-/
namespace Go.Proofs.Qxb6604427a

/-- A uvarint's bytes. -/
def uv (u : Nat) : List Nat := if u < 128 then [u] else (u % 128 + 128) :: uv (u / 128)

theorem uv_small {u : Nat} (h : u < 128) : uv u = [u] := by rw [uv, if_pos h]
theorem uv_big {u : Nat} (h : ¬ u < 128) : uv u = (u % 128 + 128) :: uv (u / 128) := by rw [uv, if_neg h]

theorem uv_len_aux : ∀ (f u : Nat), u ≤ f → (uv u).length ≤ u + 1 := by
  intro f
  induction f with
  | zero => intro u hu; rw [uv_small (by omega)]; simp
  | succ f ih =>
    intro u hu
    by_cases h : u < 128
    · rw [uv_small h]; simp
    · rw [uv_big h]
      have := ih (u / 128) (by omega)
      simp only [List.length_cons]; omega
theorem uv_len (u : Nat) : (uv u).length ≤ u + 1 := uv_len_aux u u (Nat.le_refl _)

theorem uv_pos (u : Nat) : 0 < (uv u).length := by
  by_cases h : u < 128
  · rw [uv_small h]; simp
  · rw [uv_big h]; simp

theorem uv_acc (acc x d i u : Nat) (h : acc + x * 2 ^ (7 * i) = u) (hl : acc < 2 ^ (7 * i)) (hd : d = x % 128) :
    acc + d * 2 ^ (7 * i) + x / 128 * 2 ^ (7 * (i + 1)) = u ∧ acc + d * 2 ^ (7 * i) < 2 ^ (7 * (i + 1)) := by
  have e : 2 ^ (7 * (i + 1)) = 2 ^ (7 * i) * 128 := by rw [show 7 * (i + 1) = 7 * i + 7 by omega, Nat.pow_add]
  rw [e]
  generalize 2 ^ (7 * i) = W at *
  have h1 : x * W = x / 128 * (W * 128) + d * W := by
    have hx : x = x / 128 * 128 + d := by omega
    calc x * W = (x / 128 * 128 + d) * W := by rw [← hx]
      _ = x / 128 * (W * 128) + d * W := by rw [Nat.add_mul, Nat.mul_assoc, Nat.mul_comm 128 W]
  have h2 : d * W ≤ 127 * W := Nat.mul_le_mul_right W (by omega)
  omega

/-- One item: a head byte, a uvarint where the text is long, the text. -/
def enc (k : Nat) (t : List Nat) : List Nat := if t.length < 15 then (k + 16 * t.length) :: t else (k + 240) :: (uv (t.length - 15) ++ t)

theorem enc_len (k : Nat) (t : List Nat) : (enc k t).length ≤ 2 * t.length + 2 ∧ t.length < (enc k t).length := by
  unfold enc
  split
  · simp; omega
  · have := uv_len (t.length - 15)
    simp only [List.length_cons, List.length_append]
    omega

/-- A text's bytes. -/
def bs (s : ByteArray) : List Nat := s.data.toList.map UInt8.toNat
theorem bs_len (s : ByteArray) : (bs s).length = s.size := by simp [bs]

/-- The items of a tape, one after another. -/
def encAll (l : List (Nat × ByteArray)) : List Nat := l.flatMap fun x => enc x.1 (bs x.2)
theorem encAll_snoc (l : List (Nat × ByteArray)) (j : Nat) (h : j < l.length) : encAll (l.take (j + 1)) = encAll (l.take j) ++ enc l[j].1 (bs l[j].2) := by
  unfold encAll; rw [List.take_succ_eq_append_getElem h, List.flatMap_append]; simp only [List.flatMap_cons, List.flatMap_nil, List.append_nil]
/-- Where item j begins. -/
def place (l : List (Nat × ByteArray)) (j : Nat) : Nat := (encAll (l.take j)).length
def places (l : List (Nat × ByteArray)) (j : Nat) : List Nat := (List.range j).map (place l)
theorem places_succ (l : List (Nat × ByteArray)) (j : Nat) : places l (j + 1) = places l j ++ [place l j] := by simp [places, List.range_succ]
theorem places_len (l : List (Nat × ByteArray)) (j : Nat) : (places l j).length = j := by simp [places]

/-- How many bytes the texts hold. -/
def total (l : List (Nat × ByteArray)) : Nat := (l.map fun x => x.2.size).sum
theorem total_snoc (l : List (Nat × ByteArray)) (j : Nat) (h : j < l.length) : total (l.take (j + 1)) = total (l.take j) + l[j].2.size := by
  unfold total; rw [List.take_succ_eq_append_getElem h, List.map_append, List.sum_append]; simp only [List.map_cons, List.map_nil, List.sum_cons, List.sum_nil, Nat.add_zero]
theorem total_take (l : List (Nat × ByteArray)) (j : Nat) : total (l.take j) ≤ total l := by
  have h : total l = total (l.take j) + total (l.drop j) := by
    have := congrArg total (List.take_append_drop j l).symm
    simp only [total, List.map_append, List.sum_append] at this ⊢
    exact this
  omega
theorem place_le (l : List (Nat × ByteArray)) : ∀ j, j ≤ l.length → place l j ≤ 2 * total (l.take j) + 2 * j := by
  intro j
  induction j with
  | zero => intro _; simp [place, encAll]
  | succ j ih =>
    intro h
    have h1 := ih (by omega)
    have h2 := (enc_len l[j].1 (bs l[j].2)).1
    rw [bs_len] at h2
    unfold place at h1 ⊢
    rw [encAll_snoc l j (by omega), total_snoc l j (by omega), List.length_append]
    omega
theorem size_le (l : List (Nat × ByteArray)) (j : Nat) (h : j < l.length) : l[j].2.size ≤ total l := by
  have h1 := total_snoc l j h
  have h2 := total_take l (j + 1)
  omega

end Go.Proofs.Qxb6604427a

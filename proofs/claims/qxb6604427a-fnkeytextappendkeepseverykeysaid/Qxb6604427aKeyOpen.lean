/-
  Slices of strings: opened; zzCloneStrings (9).
-/
import Derived.Test.Qxb6604427aKeyGuards
import Derived.Deep.Strs
namespace Go.Proofs.Qxb6604427a
open Go Go.RowKit Go.Deep Go.ChangeShapes Go.WideShapes
set_option maxRecDepth 100000

theorem strs_open {H : Type} {enc : TypeId × Value → H} {W : World} {base : Nat} {sp : Nat → Bool} {held : Bool} {fuel : Nat} {v : Value} {x : DataW H × List MemPlace} (h : DataW.trod enc Try.prog W base sp held fuel 22 [v] = some x) :
    ∃ (ao : Option Addr) (n cap : Nat) (l : List ByteArray), v = .slice ao n cap ∧ l.length = n ∧ n ≤ maxLen ∧ StrsIn W ao l ∧ (∀ j (h : j < l.length), l[j].size ≤ maxLen) ∧ (ao = none → n = 0 ∧ cap = 0) := by
  rcases open_strs Try.underlying22 Try.underlying9 cells9 h with ⟨hv, _⟩ | ⟨a, len, cap, m, S, hv, _, hl, hm, hmm, _, hx⟩
  · simp at hv
    exact ⟨none, 0, 0, [], hv, rfl, by unfold maxLen; omega, Or.inl rfl, fun j h => absurd h (by simp), fun _ => ⟨rfl, rfl⟩⟩
  · simp at hv
    have hlm : len ≤ m := by rw [hmm]; split <;> omega
    refine ⟨some a, len, cap, (List.range len).map S, hv, by simp, by omega, ?_, ?_, (fun h => by cases h)⟩
    · by_cases h0 : len = 0
      · subst h0; exact Or.inl rfl
      · right
        have hc0 := (hx 0 (by omega)).1
        have hsp : a.spot = none := World.cell?_spot (show W.cell? a = _ from hc0)
        obtain ⟨b, off, spot⟩ := a
        simp only at hsp
        subst hsp
        refine ⟨b, off, rfl, fun j hj => ?_⟩
        have hj' : j < len := by simpa using hj
        have c0 := (hx j (by omega)).1
        rw [Addr.add_mid] at c0
        simp only [List.getElem_map, List.getElem_range]
        exact c0
    · intro j hj
      have hj' : j < len := by simpa using hj
      simp only [List.getElem_map, List.getElem_range]
      exact (hx j (by omega)).2

theorem StrsIn.lt {W : World} {ao : Option Addr} {l : List ByteArray} (h : StrsIn W ao l) : l = [] ∨ ∃ b off, ao = some ⟨b, off, none⟩ ∧ b < W.heap.size ∧ ∀ j (h : j < l.length), W.cell? ⟨b, off + j, none⟩ = some (.string l[j]) := by
  rcases h with h | ⟨b, off, rfl, hI⟩
  · exact Or.inl h
  · by_cases h0 : l = []
    · exact Or.inl h0
    · exact Or.inr ⟨b, off, rfl, World.block_lt_of_cell? W _ (hI 0 (List.length_pos_iff.2 h0)), hI⟩
theorem StrsIn.below {W W' : World} {ao : Option Addr} {l : List ByteArray} (h : StrsIn W ao l) {B : Nat} (hB : Below B W W') (hs : W.heap.size ≤ B) : StrsIn W' ao l := by
  rcases h.lt with h | ⟨b, off, rfl, hb, hI⟩
  · exact Or.inl h
  · exact Or.inr ⟨b, off, rfl, fun j hj => (hB.cell (p := ⟨b, off + j, none⟩) (by show b < B; omega)).trans (hI j hj)⟩

theorem Try.info9 : (Try.prog.info? 9).map (fun i => (i.zero, i.size, i.bytes)) = some (some (.string ⟨#[]⟩), 1, 16) := by kernel_rfl

set_option maxHeartbeats 1000000 in
theorem clone9_some (a : Addr) (n cap : Nat) (l : List ByteArray) (w : World) (hI : StrsIn w (some a) l) (hn : l.length = n) (hm : (n : Int) ≤ 1048576) :
    Calls Try.prog 9 #[.slice (some a) n cap] w fun e w' => e = .returned (.slice (some ⟨w.heap.size, 0, none⟩) n n) ∧ StrsIn w' (some ⟨w.heap.size, 0, none⟩) l ∧ Below w.heap.size w w' := by
  obtain ⟨i9, hi9, hz9, hs9, hb9⟩ := info_parts Try.info9
  have hnil := fun (W : World) (a : Option Addr) (n c n' c' : Nat) => Lib.run_eql_slice_nil (P := Try.prog) W _ _ a n c n' c' Try.underlying22
  have HI := hide hI.lt
  clear hI
  go_enter Try.func9, Try.ntmps9
  go_wp2_with (at_make; go_must (refine wpList_make_full _ rfl _ _ 22 rfl w.heap.size 9 i9 (.string ⟨#[]⟩) 1 Try.underlying22 hi9 hz9 hs9 .i64 .i64 _ _ n rfl rfl rfl rfl (by rw [hb9]; omega) (by unfold maxLen; omega) (Nat.le_refl _) ?_; intro w1 hown1 hg1))
  have hB1 : Below w.heap.size w w1 := (Below.refl _ _).grown hg1 (Nat.le_refl _) (fun k hk => by cases hk)
  go_loopw [4] (fun i wr => ∃ (j : Nat) (X : List Value), j ≤ n ∧ i = .int .i64 j ∧ wr.ownsRow w.heap.size 9 1 (.slice (some ⟨w.heap.size, 0, none⟩) n n) n X ∧ Hid (∀ q (h : q < l.length), q < j → X[q]? = some (.string l[q])) ∧ Below w.heap.size w wr) (fun i _ => n - (intOf i).toNat)
  case atStart => exact ⟨0, _, Nat.zero_le _, rfl, hown1, fun q _ hq => absurd hq (by omega), hB1⟩
  case round =>
    obtain ⟨j, X, hj, rfl, hown, hX, hB⟩ := hrel
    clear hown1 hg1 hB1
    by_cases hlt : (j : Int) < (n : Int)
    · have hj' : j < l.length := by omega
      rcases HI.out with h0 | ⟨g, o, hv, hbg, hI⟩
      · subst h0; simp at hj'
      obtain rfl := Option.some.inj hv
      have ck0 := hI j hj'
      have ck : wr.cell? ⟨g, o + j, none⟩ = some (.string l[j]) := (hB.cell (p := ⟨g, o + j, none⟩) hbg).trans ck0
      have hXl : X.length = n * 1 := hown.1
      have d0 := hown.cellAt j (by omega)
      rw [List.getElem?_eq_getElem (by omega)] at d0
      have f0 := hown.frozenAt j
      generalize X[j] = x0 at d0
      generalize hl1 : l[j] = k at *
      have H1 := hide hl1
      clear hl1 ck0 hI hv HI
      go_wp2
      go_roundw
      case rel =>
        refine ⟨j + 1, X.set j (.string k), by omega, by go_num, (hown.stored j _).1, ?_, hB.setCell (Nat.le_refl _) _⟩
        intro q hq hqj
        by_cases e : q = j
        · subst e
          rw [List.getElem?_set_self (by omega), H1.out]
        · rw [List.getElem?_set_ne (by omega)]
          exact hX.out q hq (by omega)
      case measure => simp [intOf]; omega
    · clear HI
      go_wp2
      go_ret
      refine ⟨rfl, Or.inr ⟨_, 0, rfl, fun q hq => ?_⟩, hB⟩
      rw [Nat.zero_add, hown.cellAt q (by omega)]
      exact hX.out q hq (by omega)

set_option maxHeartbeats 1000000 in
theorem clone9_nil (w : World) : Calls Try.prog 9 #[.slice none 0 0] w fun e w' => e = .returned (.slice none 0 0) ∧ w' = w := by
  have hnil := fun (W : World) (a : Option Addr) (n c n' c' : Nat) => Lib.run_eql_slice_nil (P := Try.prog) W _ _ a n c n' c' Try.underlying22
  go_enter Try.func9, Try.ntmps9
  go_wp2
  go_ret
  exact ⟨rfl, rfl⟩

theorem clone9 (ao : Option Addr) (n cap : Nat) (l : List ByteArray) (w : World) (hI : StrsIn w ao l) (hnil : ao = none → n = 0 ∧ cap = 0) (hn : l.length = n) (hm : (n : Int) ≤ 1048576) :
    Calls Try.prog 9 #[.slice ao n cap] w fun e w' => ∃ ao', e = .returned (.slice ao' n n) ∧ StrsIn w' ao' l ∧ Below w.heap.size w w' := by
  cases ao with
  | none =>
    obtain ⟨rfl, rfl⟩ := hnil rfl
    obtain rfl := List.eq_nil_of_length_eq_zero hn
    refine (clone9_nil w).mono ?_
    rintro e w' ⟨rfl, rfl⟩
    exact ⟨none, rfl, Or.inl rfl, Below.refl _ _⟩
  | some a =>
    refine (clone9_some a n cap l w hI hn hm).mono ?_
    rintro e w' ⟨rfl, h1, h2⟩
    exact ⟨some _, rfl, h1, h2⟩
end Go.Proofs.Qxb6604427a

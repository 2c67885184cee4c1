/-
  What the two longItem laws share between their guards and the reading: the items' copy encoded, laid in blocks, made a tape.
-/
import Derived.Test.Qxb6604427aSame
namespace Go.Proofs.Qxb6604427a
open Go Go.RowKit
set_option maxRecDepth 100000

theorem own_keep {w w' : World} {B B' e sz n : Nat} {v : Value} {xs : List Value} (h : w.ownsRow B e sz v n xs) (hb : ∀ k, v.ownBlock = some k → w'.heap[k]? = w.heap[k]?) (hB : B' ≤ B) : w'.ownsRow B' e sz v n xs := by
  refine ⟨h.1, ?_⟩
  rcases h.2 with hn | ⟨g, cap, cur, rfl, hb', hgg, rest⟩
  · exact .inl hn
  · exact .inr ⟨g, cap, cur, rfl, Nat.le_trans hB hb', by rw [hb g rfl]; exact hgg, rest⟩

theorem own_holds {w : World} {B n : Nat} {v : Value} {l : List Nat} (h : w.ownsRow B 5 1 v n (bc l)) : Holds w v l := by
  have hl : l.length = n := by have := h.1; simpa [bc] using this
  subst hl
  rcases h.2 with ⟨rfl, h0⟩ | ⟨g, c, cur, rfl, _⟩
  · exact Or.inl ⟨List.eq_nil_of_length_eq_zero h0, _, _, rfl⟩
  · refine Or.inr ⟨g, 0, c, rfl, fun j hj => ?_⟩
    rw [Nat.zero_add, h.cellAt j (by omega)]
    simp [bc, hj]

theorem clone18_any (ao : Option Addr) (n cap : Nat) (l : List Nat) (w : World) (hI : Holds w (.slice ao n cap) l) (hnil : ao = none → n = 0 ∧ cap = 0) (hb : ∀ a, ao = some a → 0 < n → a.block < w.heap.size) (hn : l.length = n) (hm : (n : Int) ≤ 1048576) :
    Calls Try.prog 18 #[.slice ao n cap] w fun e w' => ∃ ao', e = .returned (.slice ao' n n) ∧ w'.ownsRow w.heap.size 5 1 (.slice ao' n n) n (bc l) ∧ (ao'.isNone = ao.isNone) ∧ Below w.heap.size w w' := by
  cases ao with
  | none =>
    obtain ⟨rfl, rfl⟩ := hnil rfl
    obtain rfl := List.eq_nil_of_length_eq_zero hn
    refine (clone18_nil w).mono ?_
    rintro e w' ⟨rfl, rfl⟩
    exact ⟨none, rfl, World.ownsRow_nil _ _ _ _, rfl, Below.refl _ _⟩
  | some a =>
    refine (clone18 (some a) rfl n cap l w hI hb hn hm).mono ?_
    rintro e w' ⟨rfl, h1, h2⟩
    exact ⟨some _, rfl, h1, rfl, h2⟩

/-- The tape's bytes. -/
def fl (l : List (Nat × ByteArray)) (q : Nat) : Nat := (encAll l).getD q 0

theorem encAll_append (a b : List (Nat × ByteArray)) : encAll (a ++ b) = encAll a ++ encAll b := by simp [encAll]
theorem place_next (l : List (Nat × ByteArray)) (j : Nat) (h : j < l.length) : place l (j + 1) = place l j + (enc l[j].1 (bs l[j].2)).length := by
  unfold place; rw [encAll_snoc l j h, List.length_append]
theorem place_all (l : List (Nat × ByteArray)) : place l l.length = (encAll l).length := by unfold place; rw [List.take_length]
theorem place_mono (l : List (Nat × ByteArray)) (j : Nat) : place l j ≤ (encAll l).length := by
  have h : encAll l = encAll (l.take j) ++ encAll (l.drop j) := by rw [← encAll_append, List.take_append_drop]
  unfold place; rw [h, List.length_append]; omega
theorem place_at (l : List (Nat × ByteArray)) (j : Nat) (h : j < l.length) : UvAt (fl l) (place l j) (enc l[j].1 (bs l[j].2)) := by
  intro q hq
  have e : encAll l = encAll (l.take j) ++ (enc l[j].1 (bs l[j].2) ++ encAll (l.drop (j + 1))) := by
    rw [← List.append_assoc, ← encAll_snoc l j h, ← encAll_append, List.take_append_drop]
  unfold fl place
  rw [e, List.getD_eq_getElem?_getD, List.getElem?_append_right (by omega), Nat.add_sub_cancel_left, List.getElem?_append_left hq]
  simp [hq]

theorem ic_places (l : List (Nat × ByteArray)) (m j : Nat) (h : j < m) : (ic (places l m))[j]? = some (.int .i64 (place l j : Int)) := by simp [ic, places, h]

/-- From the blocks to the tape. -/
theorem tape_of {w5 : World} {W N : Nat} {vb : Value} {gs f : Nat → Nat} (hN : 0 < N) (hob : w5.ownsRow W 29 1 vb (nb N) (bv gs N (nb N))) (hby : Bytes w5 gs f N (nb N)) (x : Value) :
    ∃ gb c, vb = .slice (some ⟨gb, 0, none⟩) (nb N) c ∧ W ≤ gb ∧ gb < w5.heap.size ∧ TapeAt (w5.alloc (.cells #[vb, x] 65)) w5.heap.size gb c gs f N := by
  have hpos : 0 < nb N := by unfold nb; omega
  rcases hob.2 with ⟨_, h0⟩ | ⟨g, c, cur, rfl, hg1, _⟩
  · omega
  · refine ⟨g, c, rfl, hg1, (hob.lt g rfl).2, ⟨?_, fun q hq => ?_, fun q hq j hj => ?_⟩⟩
    · rw [World.cell?_alloc_at _ _ _ _ rfl]; rfl
    · refine cell_alloc ?_ _
      rw [hob.cellAt q (by omega), bv_get gs N (nb N) q hq]
    · exact cell_alloc (hby q hq j hj) _

/-- A block that a read through *buf left alone. -/
theorem Chg.cell {w w' : World} {bb bo : Nat} {vb : Value} (h : Chg w w' bb bo vb) {a : Addr} {v : Value} (hc : w.cell? a = some v) (h1 : a.block ≠ bb) (h2 : vb.ownBlock ≠ some a.block) : w'.cell? a = some v :=
  (World.cell?_of_block (h.block a.block (World.block_lt_of_cell? w _ hc) h1 h2)).trans hc
theorem Chg.refl (w : World) (bb bo : Nat) (vb : Value) : Chg w w bb bo vb := ⟨rfl, rfl, rfl, Nat.le_refl _, fun _ _ _ _ => rfl, fun _ _ h _ _ => h, id⟩
theorem Chg.below {w0 w w' : World} {W bb bo : Nat} {vb : Value} (h : Below W w0 w) (k : Chg w w' bb bo vb) (hW : W ≤ w.heap.size) (h1 : W ≤ bb) (h2 : ∀ G, vb.ownBlock = some G → W ≤ G) : Below W w0 w' :=
  h.trans ⟨k.os, k.tape, k.output, k.size, fun i hi => k.block i (by omega) (by omega) (fun e => by have := h2 i e; omega)⟩
end Go.Proofs.Qxb6604427a

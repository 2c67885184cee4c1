/-
  (*Decoder).reset (10) on a new Decoder: what becomes of the cells indent (17) and perLevel (18).
-/
import Derived.Test.Qxb6604427aDoorReset
import Derived.Deep.DeepCutAuto
namespace Go.Proofs.Qxb6604427aDoor
open Go.RowKit
set_option maxRecDepth 100000

/-- The Decoder's block while it is reset: b; indent, perLevel at hand; the slices that are resliced are nil. -/
structure Inv (w0 : World) (b : Nat) (v17 v18 : Value) (w : World) : Prop where
  below : Below b w0 w
  other : ∀ k, k < w0.heap.size → k ≠ b → w.heap[k]? = w0.heap[k]?
  there : w.there b 0 81
  c12 : w.cell? ⟨b, 12, none⟩ = some (.slice none 0 0)
  c17 : w.cell? ⟨b, 17, none⟩ = some v17
  c18 : w.cell? ⟨b, 18, none⟩ = some v18
  c30 : w.cell? ⟨b, 30, none⟩ = some (.slice none 0 0)
  c35 : w.cell? ⟨b, 35, none⟩ = some (.slice none 0 0)
  c76 : w.cell? ⟨b, 76, none⟩ = some (.slice none 0 0)
  c77 : w.cell? ⟨b, 77, none⟩ = some (.slice none 0 0)

theorem Inv.get {w0 : World} {b : Nat} {v17 v18 : Value} {w : World} (h : Inv w0 b v17 v18 w) (k : Nat) (hk : k < 81) : (∃ v, w.cell? ⟨b, k, none⟩ = some v) ∧ w.frozen? ⟨b, k, none⟩ = false := by
  obtain ⟨h1, h2⟩ := h.there k hk
  rw [Nat.zero_add] at h1 h2
  exact ⟨Option.isSome_iff_exists.1 h1, h2⟩

theorem Inv.drew {w0 : World} {b : Nat} {v17 v18 : Value} {w : World} (h : Inv w0 b v17 v18 w) : Inv w0 b v17 v18 w.drew :=
  ⟨h.below.drew, h.other, by simpa using h.there, h.c12, h.c17, h.c18, h.c30, h.c35, h.c76, h.c77⟩

theorem Inv.alloc {w0 : World} {b : Nat} {v17 v18 : Value} {w : World} (h : Inv w0 b v17 v18 w) (o : Obj) : Inv w0 b v17 v18 (w.alloc o) := by
  have hb : b < w.heap.size := World.block_lt_of_cell? w _ h.c17
  have hc : ∀ k, (w.alloc o).cell? ⟨b, k, none⟩ = w.cell? ⟨b, k, none⟩ := fun k => World.cell?_alloc_past _ _ _ hb
  exact ⟨h.below.alloc (Nat.le_of_lt hb) o, fun k h1 h2 => (Below.heap_alloc _ _ _ (Nat.lt_of_lt_of_le h1 h.below.size)).trans (h.other k h1 h2), World.there_alloc h.there o, by rw [hc]; exact h.c12, by rw [hc]; exact h.c17, by rw [hc]; exact h.c18, by rw [hc]; exact h.c30, by rw [hc]; exact h.c35, by rw [hc]; exact h.c76, by rw [hc]; exact h.c77⟩

/-- Cells of the block that carry nothing on. -/
theorem Inv.setCell {w0 : World} {b : Nat} {v17 v18 : Value} {w : World} (h : Inv w0 b v17 v18 w) (k : Nat) (v : Value) (hk : k ≠ 17 ∧ k ≠ 18 ∧ k ≠ 30 ∧ k ≠ 35 ∧ k ≠ 76 ∧ k ≠ 77 ∧ k ≠ 12) : Inv w0 b v17 v18 (w.setCell ⟨b, k, none⟩ v) := by
  have hc : ∀ j, k ≠ j → (w.setCell ⟨b, k, none⟩ v).cell? ⟨b, j, none⟩ = w.cell? ⟨b, j, none⟩ := fun j hj => World.cell?_setCell_other _ _ _ _ (fun e => hj (congrArg Addr.off e))
  refine ⟨h.below.setCell (Nat.le_refl _) v, fun k h1 h2 => (Below.heap_setCell _ _ _ _ h2).trans (h.other k h1 h2), World.there_setCells h.there b k [v], ?_, ?_, ?_, ?_, ?_, ?_, ?_⟩
  · rw [hc _ hk.2.2.2.2.2.2]; exact h.c12
  · rw [hc _ hk.1]; exact h.c17
  · rw [hc _ hk.2.1]; exact h.c18
  · rw [hc _ hk.2.2.1]; exact h.c30
  · rw [hc _ hk.2.2.2.1]; exact h.c35
  · rw [hc _ hk.2.2.2.2.1]; exact h.c76
  · rw [hc _ hk.2.2.2.2.2.1]; exact h.c77

/-- A nil slice stored into one of the four. -/
theorem Inv.setNil {w0 : World} {b : Nat} {v17 v18 : Value} {w : World} (h : Inv w0 b v17 v18 w) (k : Nat) (hk : k ≠ 17 ∧ k ≠ 18 ∧ k < 81) : Inv w0 b v17 v18 (w.setCell ⟨b, k, none⟩ (.slice none 0 0)) := by
  obtain ⟨⟨u, hu⟩, _⟩ := h.get k hk.2.2
  have hc : ∀ j, k ≠ j → (w.setCell ⟨b, k, none⟩ (.slice none 0 0)).cell? ⟨b, j, none⟩ = w.cell? ⟨b, j, none⟩ := fun j hj => World.cell?_setCell_other _ _ _ _ (fun e => hj (congrArg Addr.off e))
  have hn : ∀ j, w.cell? ⟨b, j, none⟩ = some (.slice none 0 0) → (w.setCell ⟨b, k, none⟩ (.slice none 0 0)).cell? ⟨b, j, none⟩ = some (.slice none 0 0) := fun j hj => by
    by_cases e : k = j
    · subst e; exact World.cell?_setCell_same _ _ _ hu
    · rw [hc j e]; exact hj
  exact ⟨h.below.setCell (Nat.le_refl _) _, fun k h1 h2 => (Below.heap_setCell _ _ _ _ h2).trans (h.other k h1 h2), World.there_setCells h.there b k [_], hn _ h.c12, by rw [hc _ hk.1]; exact h.c17, by rw [hc _ hk.2.1]; exact h.c18, hn _ h.c30, hn _ h.c35, hn _ h.c76, hn _ h.c77⟩

/-- indent, perLevel stored. -/
theorem Inv.set17 {w0 : World} {b : Nat} {v17 v18 : Value} {w : World} (h : Inv w0 b v17 v18 w) (v : Value) : Inv w0 b v v18 (w.setCell ⟨b, 17, none⟩ v) := by
  have hc : ∀ j, 17 ≠ j → (w.setCell ⟨b, 17, none⟩ v).cell? ⟨b, j, none⟩ = w.cell? ⟨b, j, none⟩ := fun j hj => World.cell?_setCell_other _ _ _ _ (fun e => hj (congrArg Addr.off e))
  exact ⟨h.below.setCell (Nat.le_refl _) _, fun k h1 h2 => (Below.heap_setCell _ _ _ _ h2).trans (h.other k h1 h2), World.there_setCells h.there b 17 [_], by rw [hc _ (by omega)]; exact h.c12, World.cell?_setCell_same _ _ _ h.c17, by rw [hc _ (by omega)]; exact h.c18, by rw [hc _ (by omega)]; exact h.c30, by rw [hc _ (by omega)]; exact h.c35, by rw [hc _ (by omega)]; exact h.c76, by rw [hc _ (by omega)]; exact h.c77⟩
theorem Inv.set18 {w0 : World} {b : Nat} {v17 v18 : Value} {w : World} (h : Inv w0 b v17 v18 w) (v : Value) : Inv w0 b v17 v (w.setCell ⟨b, 18, none⟩ v) := by
  have hc : ∀ j, 18 ≠ j → (w.setCell ⟨b, 18, none⟩ v).cell? ⟨b, j, none⟩ = w.cell? ⟨b, j, none⟩ := fun j hj => World.cell?_setCell_other _ _ _ _ (fun e => hj (congrArg Addr.off e))
  exact ⟨h.below.setCell (Nat.le_refl _) _, fun k h1 h2 => (Below.heap_setCell _ _ _ _ h2).trans (h.other k h1 h2), World.there_setCells h.there b 18 [_], by rw [hc _ (by omega)]; exact h.c12, by rw [hc _ (by omega)]; exact h.c17, World.cell?_setCell_same _ _ _ h.c18, by rw [hc _ (by omega)]; exact h.c30, by rw [hc _ (by omega)]; exact h.c35, by rw [hc _ (by omega)]; exact h.c76, by rw [hc _ (by omega)]; exact h.c77⟩

theorem below_setCells {w0 : World} {b : Nat} : ∀ (vs : List Value) (o : Nat) {w : World}, Below b w0 w → Below b w0 (w.setCells b o vs)
  | [], _, _, h => h
  | v :: r, o, _, h => by
    rw [World.setCells]
    exact below_setCells r (o + 1) (h.setCell (Nat.le_refl _) v)
theorem other_setCells {b : Nat} : ∀ (vs : List Value) (o : Nat) (w : World) (k : Nat), k ≠ b → (w.setCells b o vs).heap[k]? = w.heap[k]?
  | [], _, _, _, _ => rfl
  | v :: r, o, w, k, h => by
    rw [World.setCells, other_setCells r (o + 1) _ k h]
    exact Below.heap_setCell _ _ _ _ h

/-- The line reader stored. -/
theorem Inv.setLines {w0 : World} {b : Nat} {v17 v18 : Value} {w : World} (h : Inv w0 b v17 v18 w) (cs : List Value) (hl : cs.length = 17) (h12 : cs[12]? = some (.slice none 0 0)) : Inv w0 b v17 v18 (w.setCells b 0 cs) := by
  have hc : ∀ j, 17 ≤ j → (w.setCells b 0 cs).cell? ⟨b, j, none⟩ = w.cell? ⟨b, j, none⟩ := fun j hj => World.cell?_setCells_out b cs 0 w ⟨b, j, none⟩ (fun _ _ => by right; simp only [hl, Nat.zero_add]; exact hj)
  refine ⟨below_setCells cs 0 h.below, fun k h1 h2 => (other_setCells cs 0 w k h2).trans (h.other k h1 h2), World.there_setCells h.there b 0 cs, ?_, by rw [hc _ (by omega)]; exact h.c17, by rw [hc _ (by omega)]; exact h.c18, by rw [hc _ (by omega)]; exact h.c30, by rw [hc _ (by omega)]; exact h.c35, by rw [hc _ (by omega)]; exact h.c76, by rw [hc _ (by omega)]; exact h.c77⟩
  have := World.rangeAt_setCells_same w b 0 cs (fun j hj => h.there j (by omega)) 12 _ h12
  simpa using this

theorem setCells_drew (b : Nat) : ∀ (vs : List Value) (o : Nat) (w : World), w.drew.setCells b o vs = (w.setCells b o vs).drew
  | [], _, _ => rfl
  | v :: r, o, w => by
    rw [World.setCells, World.setCells, World.setCell_drew, setCells_drew b r]

end Go.Proofs.Qxb6604427aDoor

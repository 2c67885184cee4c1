/-
  A resource's memory: what its pointers and its readers lead to.
-/
import Derived.Test.Qxb6002694aHold
namespace Go.Proofs.Qxb6002694a
open Go Go.RowKit
set_option maxRecDepth 100000

abbrev HoldD := ByteArray × Int × Int
abbrev RunD := ByteArray × Int
abbrev EndD := ByteArray × Int × ByteArray × Int × ByteArray

def HoldA (w : World) (b o : Nat) (h : HoldD) : Prop := w.cell? ⟨b, o, none⟩ = some (.string h.1) ∧ w.cell? ⟨b, o + 1, none⟩ = some (.int .u64 h.2.1) ∧ w.cell? ⟨b, o + 2, none⟩ = some (.int .u64 h.2.2)
def HoldP (w : World) (v : Value) : Option HoldD → Prop
  | none => v = .pointer none
  | some h => ∃ b o, v = .pointer (some ⟨b, o, none⟩) ∧ HoldA w b o h
def RunP (w : World) (v : Value) : Option RunD → Prop
  | none => v = .pointer none
  | some h => ∃ b o, v = .pointer (some ⟨b, o, none⟩) ∧ w.cell? ⟨b, o, none⟩ = some (.string h.1) ∧ w.cell? ⟨b, o + 1, none⟩ = some (.int .u64 h.2)
def EndP (w : World) (v : Value) : Option EndD → Prop
  | none => v = .pointer none
  | some h => ∃ b o, v = .pointer (some ⟨b, o, none⟩) ∧ w.cell? ⟨b, o, none⟩ = some (.string h.1) ∧ w.cell? ⟨b, o + 1, none⟩ = some (.int .u64 h.2.1) ∧ w.cell? ⟨b, o + 2, none⟩ = some (.string h.2.2.1) ∧ w.cell? ⟨b, o + 3, none⟩ = some (.int .i64 h.2.2.2.1) ∧ w.cell? ⟨b, o + 4, none⟩ = some (.string h.2.2.2.2)
def Rds (w : World) (ao : Option Addr) (l : List HoldD) : Prop := l = [] ∨ ∃ b o, ao = some ⟨b, o, none⟩ ∧ ∀ j (h : j < l.length), HoldA w b (o + j * 3) l[j]

theorem cell_below {w w' : World} {B : Nat} {p : Addr} {v : Value} (hB : Below B w w') (hs : w.heap.size ≤ B) (h : w.cell? p = some v) : w'.cell? p = some v :=
  (hB.cell (p := p) (Nat.lt_of_lt_of_le (World.block_lt_of_cell? w _ h) hs)).trans h
theorem HoldA.below {w w' : World} {B b o : Nat} {h : HoldD} (H : HoldA w b o h) (hB : Below B w w') (hs : w.heap.size ≤ B) : HoldA w' b o h := ⟨cell_below hB hs H.1, cell_below hB hs H.2.1, cell_below hB hs H.2.2⟩
theorem HoldP.below {w w' : World} {B : Nat} {v : Value} {o : Option HoldD} (H : HoldP w v o) (hB : Below B w w') (hs : w.heap.size ≤ B) : HoldP w' v o := by
  cases o with
  | none => exact H
  | some h => obtain ⟨b, o, e, H⟩ := H; exact ⟨b, o, e, H.below hB hs⟩
theorem RunP.below {w w' : World} {B : Nat} {v : Value} {o : Option RunD} (H : RunP w v o) (hB : Below B w w') (hs : w.heap.size ≤ B) : RunP w' v o := by
  cases o with
  | none => exact H
  | some h => obtain ⟨b, o, e, h0, h1⟩ := H; exact ⟨b, o, e, cell_below hB hs h0, cell_below hB hs h1⟩
theorem EndP.below {w w' : World} {B : Nat} {v : Value} {o : Option EndD} (H : EndP w v o) (hB : Below B w w') (hs : w.heap.size ≤ B) : EndP w' v o := by
  cases o with
  | none => exact H
  | some h => obtain ⟨b, o, e, h0, h1, h2, h3, h4⟩ := H; exact ⟨b, o, e, cell_below hB hs h0, cell_below hB hs h1, cell_below hB hs h2, cell_below hB hs h3, cell_below hB hs h4⟩
theorem Rds.below {w w' : World} {B : Nat} {ao : Option Addr} {l : List HoldD} (H : Rds w ao l) (hB : Below B w w') (hs : w.heap.size ≤ B) : Rds w' ao l := by
  rcases H with h | ⟨b, o, e, H⟩
  · exact Or.inl h
  · exact Or.inr ⟨b, o, e, fun j hj => (H j hj).below hB hs⟩

/-- A resource's thirteen cells. -/
def resCells (nm kd hs pa : ByteArray) (gen : Int) (phs : ByteArray) (tr : Int) (ad : ByteArray) (cl : Bool) (wv rv xv lv : Value) : Array Value :=
  #[.string nm, .string kd, .string hs, .string pa, .int .u64 gen, .string phs, .int .u64 tr, .string ad, .bool cl, wv, rv, xv, lv]

theorem cell_of_block {w : World} {b t : Nat} {cs : Array Value} (h : w.heap[b]? = some (.cells cs t (0, 0))) (i : Nat) (v : Value) (hv : cs[i]? = some v) : w.cell? ⟨b, i, none⟩ = some v := by
  simp [World.cell?, h, hv]
theorem frozen_of_block {w : World} {b t : Nat} {cs : Array Value} (h : w.heap[b]? = some (.cells cs t (0, 0))) (i : Nat) : w.frozen? ⟨b, i, none⟩ = false := by
  simp [World.frozen?, h]
theorem block_setCell {w : World} {b t : Nat} {cs : Array Value} (h : w.heap[b]? = some (.cells cs t (0, 0))) (i : Nat) (v : Value) : (w.setCell ⟨b, i, none⟩ v).heap[b]? = some (.cells (cs.setIfInBounds i v) t (0, 0)) := by
  simp [World.setCell, Array.getElem?_modify, h]
end Go.Proofs.Qxb6002694a

/-
  What toRegistry (10) holds between its steps.
-/
import Derived.Test.Qxb6002694aRes
namespace Go.Proofs.Qxb6002694a
open Go Go.RowKit
set_option maxRecDepth 100000
attribute [local go_sem ↓] Go.wp_at_zero Go.wp_at_succ

/-- What toRegistry holds between its steps. -/
structure TR (w wd : World) (box zero : Array Value) (nm kd hs pa : ByteArray) (gen : Int) (phs : ByteArray) (tr : Int) (ad : ByteArray) (cl : Bool) (wv rv xv lv : Value) : Prop where
  bx : wd.heap[w.heap.size]? = some (.cells box 28 (0, 0))
  rs : wd.heap[w.heap.size + 1]? = some (.cells zero 35 (0, 0))
  ot : wd.heap[w.heap.size + 1 + 1]? = some (.cells (resCells nm kd hs pa gen phs tr ad cl wv rv xv lv) 35 (0, 0))
  b : Below w.heap.size w wd

theorem TR.below {w wd w2 : World} {box zero : Array Value} {nm kd hs pa : ByteArray} {gen : Int} {phs : ByteArray} {tr : Int} {ad : ByteArray} {cl : Bool} {wv rv xv lv : Value} (h : TR w wd box zero nm kd hs pa gen phs tr ad cl wv rv xv lv) (hB : Below wd.heap.size wd w2) : TR w w2 box zero nm kd hs pa gen phs tr ad cl wv rv xv lv := by
  have h1 : w.heap.size + 1 + 1 < wd.heap.size := (Array.getElem?_eq_some_iff.1 h.ot).1
  exact ⟨(hB.block _ (by omega)).trans h.bx, (hB.block _ (by omega)).trans h.rs, (hB.block _ h1).trans h.ot, h.b.trans (hB.mono h.b.size)⟩
theorem TR.writer {w wd : World} {box zero : Array Value} {nm kd hs pa : ByteArray} {gen : Int} {phs : ByteArray} {tr : Int} {ad : ByteArray} {cl : Bool} {wv rv xv lv : Value} (h : TR w wd box zero nm kd hs pa gen phs tr ad cl wv rv xv lv) (v : Value) : TR w (wd.setCell ⟨w.heap.size + 1 + 1, 9, none⟩ v) box zero nm kd hs pa gen phs tr ad cl v rv xv lv :=
  ⟨(Below.heap_setCell _ _ _ _ (by simp; omega)).trans h.bx, (Below.heap_setCell _ _ _ _ (by simp)).trans h.rs, block_setCell h.ot 9 v, h.b.setCell (by simp; omega) _⟩
theorem TR.readers {w wd : World} {box zero : Array Value} {nm kd hs pa : ByteArray} {gen : Int} {phs : ByteArray} {tr : Int} {ad : ByteArray} {cl : Bool} {wv rv xv lv : Value} (h : TR w wd box zero nm kd hs pa gen phs tr ad cl wv rv xv lv) (v : Value) : TR w (wd.setCell ⟨w.heap.size + 1 + 1, 10, none⟩ v) box zero nm kd hs pa gen phs tr ad cl wv v xv lv :=
  ⟨(Below.heap_setCell _ _ _ _ (by simp; omega)).trans h.bx, (Below.heap_setCell _ _ _ _ (by simp)).trans h.rs, block_setCell h.ot 10 v, h.b.setCell (by simp; omega) _⟩
theorem TR.running {w wd : World} {box zero : Array Value} {nm kd hs pa : ByteArray} {gen : Int} {phs : ByteArray} {tr : Int} {ad : ByteArray} {cl : Bool} {wv rv xv lv : Value} (h : TR w wd box zero nm kd hs pa gen phs tr ad cl wv rv xv lv) (v : Value) : TR w (wd.setCell ⟨w.heap.size + 1 + 1, 11, none⟩ v) box zero nm kd hs pa gen phs tr ad cl wv rv v lv :=
  ⟨(Below.heap_setCell _ _ _ _ (by simp; omega)).trans h.bx, (Below.heap_setCell _ _ _ _ (by simp)).trans h.rs, block_setCell h.ot 11 v, h.b.setCell (by simp; omega) _⟩
theorem TR.last {w wd : World} {box zero : Array Value} {nm kd hs pa : ByteArray} {gen : Int} {phs : ByteArray} {tr : Int} {ad : ByteArray} {cl : Bool} {wv rv xv lv : Value} (h : TR w wd box zero nm kd hs pa gen phs tr ad cl wv rv xv lv) (v : Value) : TR w (wd.setCell ⟨w.heap.size + 1 + 1, 12, none⟩ v) box zero nm kd hs pa gen phs tr ad cl wv rv xv v :=
  ⟨(Below.heap_setCell _ _ _ _ (by simp; omega)).trans h.bx, (Below.heap_setCell _ _ _ _ (by simp)).trans h.rs, block_setCell h.ot 12 v, h.b.setCell (by simp; omega) _⟩

/-- The pointer leads behind block n, or nowhere. -/
def Far (n : Nat) (po : Option Addr) : Prop := ∀ a, po = some a → n < a.block

theorem cell_keep {w w' : World} {b o : Nat} {v : Value} (hk : w'.heap[b]? = w.heap[b]?) (h : w.cell? ⟨b, o, none⟩ = some v) : w'.cell? ⟨b, o, none⟩ = some v := (World.cell?_of_block (a := ⟨b, o, none⟩) hk).trans h
theorem HoldA.keep {w w' : World} {b o : Nat} {h : HoldD} (H : HoldA w b o h) (hk : w'.heap[b]? = w.heap[b]?) : HoldA w' b o h := ⟨cell_keep hk H.1, cell_keep hk H.2.1, cell_keep hk H.2.2⟩
theorem HoldP.keep {w w' : World} {p : Option Addr} {o : Option HoldD} (H : HoldP w (.pointer p) o) (hk : ∀ a, p = some a → w'.heap[a.block]? = w.heap[a.block]?) : HoldP w' (.pointer p) o := by
  cases o with
  | none => exact H
  | some h =>
    obtain ⟨b, o, e, H⟩ := H
    simp only [Value.pointer.injEq] at e
    exact ⟨b, o, by rw [e], H.keep (hk _ e)⟩
theorem RunP.keep {w w' : World} {p : Option Addr} {o : Option RunD} (H : RunP w (.pointer p) o) (hk : ∀ a, p = some a → w'.heap[a.block]? = w.heap[a.block]?) : RunP w' (.pointer p) o := by
  cases o with
  | none => exact H
  | some h =>
    obtain ⟨b, o, e, h0, h1⟩ := H
    simp only [Value.pointer.injEq] at e
    exact ⟨b, o, by rw [e], cell_keep (hk _ e) h0, cell_keep (hk _ e) h1⟩
theorem EndP.keep {w w' : World} {p : Option Addr} {o : Option EndD} (H : EndP w (.pointer p) o) (hk : ∀ a, p = some a → w'.heap[a.block]? = w.heap[a.block]?) : EndP w' (.pointer p) o := by
  cases o with
  | none => exact H
  | some h =>
    obtain ⟨b, o, e, h0, h1, h2, h3, h4⟩ := H
    simp only [Value.pointer.injEq] at e
    exact ⟨b, o, by rw [e], cell_keep (hk _ e) h0, cell_keep (hk _ e) h1, cell_keep (hk _ e) h2, cell_keep (hk _ e) h3, cell_keep (hk _ e) h4⟩
theorem Rds.keep {w w' : World} {ao : Option Addr} {l : List HoldD} (H : Rds w ao l) (hk : ∀ a, ao = some a → w'.heap[a.block]? = w.heap[a.block]?) : Rds w' ao l := by
  rcases H with h | ⟨b, o, e, H⟩
  · exact Or.inl h
  · exact Or.inr ⟨b, o, e, fun j hj => (H j hj).keep (hk _ e)⟩

/-- A cell of a block just made, behind a store into an elder block. -/
theorem new_cell {W : World} {cs : Array Value} {t b i : Nat} {v : Value} (hb : b < W.heap.size) (j : Nat) (u : Value) (h : cs[j]? = some u) : ((W.alloc (.cells cs t)).setCell ⟨b, i, none⟩ v).cell? ⟨W.heap.size, j, none⟩ = some u := by
  rw [World.cell?_setCell_other _ _ _ _ (fun e => by have := congrArg Addr.block e; simp at this; omega), World.cell?_alloc_at _ _ _ _ rfl]
  exact h

theorem own_keep {w w' : World} {B B' e sz n : Nat} {v : Value} {xs : List Value} (h : w.ownsRow B e sz v n xs) (hb : ∀ k, v.ownBlock = some k → w'.heap[k]? = w.heap[k]?) (hB : B' ≤ B) : w'.ownsRow B' e sz v n xs := by
  refine ⟨h.1, ?_⟩
  rcases h.2 with hn | ⟨g, cap, cur, rfl, hb', hgg, rest⟩
  · exact .inl hn
  · exact .inr ⟨g, cap, cur, rfl, Nat.le_trans hB hb', by rw [hb g rfl]; exact hgg, rest⟩
theorem TR.other {w wd : World} {box zero : Array Value} {nm kd hs pa : ByteArray} {gen : Int} {phs : ByteArray} {tr : Int} {ad : ByteArray} {cl : Bool} {wv rv xv lv : Value} (h : TR w wd box zero nm kd hs pa gen phs tr ad cl wv rv xv lv) (b i : Nat) (v : Value) (hb : w.heap.size + 1 + 1 < b) : TR w (wd.setCell ⟨b, i, none⟩ v) box zero nm kd hs pa gen phs tr ad cl wv rv xv lv :=
  ⟨(Below.heap_setCell _ _ _ _ (by simp; omega)).trans h.bx, (Below.heap_setCell _ _ _ _ (by simp; omega)).trans h.rs, (Below.heap_setCell _ _ _ _ (by simp; omega)).trans h.ot, h.b.setCell (by simp; omega) _⟩
theorem HoldP.lt {w : World} {p : Option Addr} {o : Option HoldD} (H : HoldP w (.pointer p) o) : ∀ a, p = some a → a.block < w.heap.size := by
  intro a ha
  subst ha
  cases o with
  | none => simp [HoldP] at H
  | some h =>
    obtain ⟨b, o, e, H⟩ := H
    simp only [Value.pointer.injEq, Option.some.injEq] at e
    subst e
    exact World.block_lt_of_cell? w _ H.1
theorem Try.info42 : (Try.prog.info? 42).map (fun i => (i.zero, i.size, i.bytes)) = some (some (.agg #[.string ⟨#[]⟩, .int .u64 0, .int .u64 0]), 3, 32) := by kernel_rfl

/-- A row of holds, one more laid. -/
theorem row_more {X : List Value} {rd : List HoldD} {j : Nat} (hl : j * 3 + 2 < X.length) (hX : ∀ q (h : q < rd.length), q < j → X[q * 3]? = some (.string rd[q].1) ∧ X[q * 3 + 1]? = some (.int .u64 rd[q].2.1) ∧ X[q * 3 + 2]? = some (.int .u64 rd[q].2.2)) (c : ByteArray) (e t : Int) (hj : j < rd.length) (h : rd[j] = (c, e, t)) :
    ∀ q (h : q < rd.length), q < j + 1 → (((X.set (j * 3) (.string c)).set (j * 3 + 1) (.int .u64 e)).set (j * 3 + 2) (.int .u64 t))[q * 3]? = some (.string rd[q].1) ∧ (((X.set (j * 3) (.string c)).set (j * 3 + 1) (.int .u64 e)).set (j * 3 + 2) (.int .u64 t))[q * 3 + 1]? = some (.int .u64 rd[q].2.1) ∧ (((X.set (j * 3) (.string c)).set (j * 3 + 1) (.int .u64 e)).set (j * 3 + 2) (.int .u64 t))[q * 3 + 2]? = some (.int .u64 rd[q].2.2) := fun q hq hqj => by
  by_cases e : q = j
  · subst e
    rw [h]
    refine ⟨?_, ?_, ?_⟩
    · rw [List.getElem?_set_ne (by omega), List.getElem?_set_ne (by omega), List.getElem?_set_self (by omega)]
    · rw [List.getElem?_set_ne (by omega), List.getElem?_set_self (by simp; omega)]
    · rw [List.getElem?_set_self (by simp; omega)]
  · obtain ⟨g0, g1, g2⟩ := hX q hq (by omega)
    refine ⟨?_, ?_, ?_⟩
    · rw [List.getElem?_set_ne (by omega), List.getElem?_set_ne (by omega), List.getElem?_set_ne (by omega), g0]
    · rw [List.getElem?_set_ne (by omega), List.getElem?_set_ne (by omega), List.getElem?_set_ne (by omega), g1]
    · rw [List.getElem?_set_ne (by omega), List.getElem?_set_ne (by omega), List.getElem?_set_ne (by omega), g2]

/-- Block b alone was written. -/
structure Same (w W : World) (b : Nat) : Prop where
  os : W.os = w.os
  tape : W.tape = w.tape
  output : W.output = w.output
  size : W.heap.size = w.heap.size
  block : ∀ k, k ≠ b → W.heap[k]? = w.heap[k]?
theorem Same.refl (w : World) (b : Nat) : Same w w b := ⟨rfl, rfl, rfl, rfl, fun _ _ => rfl⟩
theorem Same.set {w W : World} {b : Nat} (h : Same w W b) (i : Nat) (v : Value) : Same w (W.setCell ⟨b, i, none⟩ v) b :=
  ⟨h.os, h.tape, h.output, by rw [← h.size]; simp [World.setCell], fun k hk => (Below.heap_setCell _ _ _ _ (by simpa using hk)).trans (h.block k hk)⟩
theorem Same.below {w0 w W : World} {B b : Nat} (h : Same w W b) (hB : Below B w0 w) (hb : B ≤ b) : Below B w0 W :=
  hB.trans ⟨h.os, h.tape, h.output, Nat.le_of_eq h.size.symm, fun i hi => h.block i (by omega)⟩

end Go.Proofs.Qxb6002694a

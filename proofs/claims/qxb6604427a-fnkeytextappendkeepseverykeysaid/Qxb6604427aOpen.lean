/-
  The laws' arguments opened: items, bytes.
-/
import Derived.Test.Qxb6604427aReads
import Derived.ProofKit
import Derived.Deep.SlicePairs
namespace Go.Proofs.Qxb6604427a
open Go Go.RowKit Go.Deep Go.ChangeShapes Go.WideShapes

theorem own : ownKnob Try.prog.godebug = none := by kernel_rfl
theorem laidOut : laidOutB Try.prog = true := by kernel_rfl
theorem cells49 : Try.prog.cellsOf 49 = 2 := by kernel_rfl
theorem cells5 : Try.prog.cellsOf 5 = 1 := by kernel_rfl
theorem cells9 : Try.prog.cellsOf 9 = 1 := by kernel_rfl

theorem byte_of_wf {x : Int} (h : (Lit.int .u8 x).wf = true) : 0 ≤ x ∧ x ≤ 255 := by
  simp [Lit.wf, IntKind.min, IntKind.max, IntKind.signed, IntKind.bits] at h
  omega

/-- The items. -/
theorem items_open {H : Type} {enc : TypeId × Value → H} {W : World} {base : Nat} {sp : Nat → Bool} {held : Bool} {fuel : Nat} {v : Value} {x : DataW H × List MemPlace} (h : DataW.trod enc Try.prog W base sp held fuel 31 [v] = some x) :
    ∃ (ao : Option Addr) (n cap : Nat) (l : List (Nat × ByteArray)), v = .slice ao n cap ∧ l.length = n ∧ n ≤ maxLen ∧ ItemsIn W ao l ∧ (∀ j (h : j < l.length), l[j].2.size ≤ maxLen) ∧ (ao = none → n = 0 ∧ cap = 0) := by
  rcases open_slice_pairs Try.underlying31 Try.underlying49 cells49 rfl rfl cells5 cells9 h with ⟨hv, _⟩ | ⟨a, len, cap, m, fu, V0, V1, D0, D1, P0, P1, hv, _, hl, hm, hmm, _, hx⟩
  · simp at hv
    exact ⟨none, 0, 0, [], hv, rfl, by unfold maxLen; omega, Or.inl rfl, fun j h => absurd h (by simp), fun _ => ⟨rfl, rfl⟩⟩
  · simp at hv
    have hlm : len ≤ m := by rw [hmm]; split <;> omega
    have h1 : ∀ i, i < len → ∃ k : Nat, V0 i = .int .u8 (k : Int) := fun i hi => by
      obtain ⟨n, e, _, hw⟩ := DataW.trod_int Try.underlying5 (hx i (by omega)).2.2.1
      simp at e
      obtain ⟨q, rfl⟩ := Int.eq_ofNat_of_zero_le (byte_of_wf hw).1
      exact ⟨q, e⟩
    have h2 : ∀ i, i < len → ∃ s : ByteArray, V1 i = .string s ∧ s.size ≤ maxLen := fun i hi => by
      obtain ⟨s, e, _, hs⟩ := DataW.trod_string Try.underlying9 (hx i (by omega)).2.2.2
      simp at e
      exact ⟨s, e, hs⟩
    obtain ⟨K, hK⟩ := choose_lt h1
    obtain ⟨S, hS⟩ := choose_lt h2
    refine ⟨some a, len, cap, (List.range len).map fun i => (K i, S i), hv, by simp, by omega, ?_, ?_, (fun h => by cases h)⟩
    · by_cases h0 : len = 0
      · subst h0; exact Or.inl rfl
      · right
        have hc0 := (hx 0 (by omega)).1
        have hsp : a.spot = none := by
          rw [show a.add (0 * 2) = a from rfl] at hc0
          exact World.cell?_spot hc0
        obtain ⟨b, off, spot⟩ := a
        simp only at hsp
        subst hsp
        refine ⟨b, off, rfl, fun j hj => ?_⟩
        have hj' : j < len := by simpa using hj
        obtain ⟨c0, c1, _⟩ := hx j (by omega)
        rw [Addr.add_mid] at c0 c1
        simp only [List.getElem_map, List.getElem_range]
        exact ⟨by rw [c0, hK j hj'], by rw [show off + j * 2 + 1 = off + (j * 2 + 1) by omega, c1, (hS j hj').1]⟩
    · intro j hj
      have hj' : j < len := by simpa using hj
      simp only [List.getElem_map, List.getElem_range]
      exact (hS j hj').2

theorem ItemsIn.lt {W : World} {ao : Option Addr} {l : List (Nat × ByteArray)} (h : ItemsIn W ao l) : l = [] ∨ ∃ b off, ao = some ⟨b, off, none⟩ ∧ b < W.heap.size ∧ ∀ j (h : j < l.length), W.cell? ⟨b, off + j * 2, none⟩ = some (.int .u8 (l[j].1 : Int)) ∧ W.cell? ⟨b, off + j * 2 + 1, none⟩ = some (.string l[j].2) := by
  rcases h with h | ⟨b, off, rfl, hI⟩
  · exact Or.inl h
  · by_cases h0 : l = []
    · exact Or.inl h0
    · exact Or.inr ⟨b, off, rfl, World.block_lt_of_cell? W _ (hI 0 (List.length_pos_iff.2 h0)).1, hI⟩

/-- Bytes. -/
theorem bytes_open {H : Type} {enc : TypeId × Value → H} {W : World} {base : Nat} {sp : Nat → Bool} {held : Bool} {fuel : Nat} {v : Value} {x : DataW H × List MemPlace} (h : DataW.trod enc Try.prog W base sp held fuel 29 [v] = some x) :
    ∃ (ao : Option Addr) (n cap : Nat) (l : List Nat), v = .slice ao n cap ∧ l.length = n ∧ n ≤ maxLen ∧ Holds W v l ∧ (ao = none → n = 0 ∧ cap = 0) ∧ (∀ a, ao = some a → 0 < n → a.block < W.heap.size) := by
  rcases open_ints Try.underlying29 Try.underlying5 cells5 h with ⟨hv, _⟩ | ⟨a, len, cap, zs, hv, _, hl, hm, hz, _, hc, hw⟩
  · simp at hv
    exact ⟨none, 0, 0, [], hv, rfl, by unfold maxLen; omega, Or.inl ⟨rfl, _, _, hv⟩, fun _ => ⟨rfl, rfl⟩, fun a h => by cases h⟩
  · simp at hv
    have hlz : len ≤ zs.length := by rw [hz]; split <;> omega
    have hlen : ((zs.take len).map Int.toNat).length = len := by simp; omega
    refine ⟨some a, len, cap, (zs.take len).map Int.toNat, hv, hlen, by omega, ?_, (fun h => by cases h), ?_⟩
    · by_cases h0 : len = 0
      · subst h0; exact Or.inl ⟨rfl, _, _, hv⟩
      · right
        have hc0 := hc 0 (by omega)
        have hsp : a.spot = none := World.cell?_spot (show W.cell? a = _ from hc0)
        obtain ⟨b, off, spot⟩ := a
        simp only at hsp
        subst hsp
        refine ⟨b, off, cap, by rw [hlen]; exact hv, fun j hj => ?_⟩
        rw [hlen] at hj
        have hcj := hc j (by omega)
        rw [Addr.add_mid] at hcj
        rw [hcj]
        have hb := byte_of_wf (hw (zs.getD j 0) (by rw [List.getD_eq_getElem?_getD, List.getElem?_eq_getElem (by omega)]; exact List.getElem_mem _))
        simp only [List.getElem_map, List.getElem_take]
        rw [List.getD_eq_getElem?_getD, List.getElem?_eq_getElem (by omega)] at hb ⊢
        simp only [Option.getD_some] at hb ⊢
        rw [Int.toNat_of_nonneg hb.1]
    · intro a' ha' h0
      simp at ha'
      subst ha'
      exact World.block_lt_of_cell? W _ (show W.cell? a = _ from hc 0 (by omega))
end Go.Proofs.Qxb6604427a

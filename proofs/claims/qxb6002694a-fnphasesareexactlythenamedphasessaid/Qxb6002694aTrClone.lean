/-
  cloneTransitions (16), toRegistryTransitions (18).
-/
import Derived.Test.Qxb6002694aTrs
namespace Go.Proofs.Qxb6002694a
open Go Go.RowKit
set_option maxRecDepth 100000
attribute [local go_sem ↓] Go.wp_at_zero Go.wp_at_succ

theorem Trs.lt {W : World} {ao : Option Addr} {l : List Tr} (h : Trs W ao l) : l = [] ∨ ∃ b off, ao = some ⟨b, off, none⟩ ∧ b < W.heap.size ∧ ∀ j (h : j < l.length), W.cell? ⟨b, off + j * 3, none⟩ = some (.string l[j].1) ∧ W.cell? ⟨b, off + j * 3 + 1, none⟩ = some (.string l[j].2.1) ∧ W.cell? ⟨b, off + j * 3 + 2, none⟩ = some (.string l[j].2.2) := by
  rcases h with h | ⟨b, off, rfl, hI⟩
  · exact Or.inl h
  · by_cases h0 : l = []
    · exact Or.inl h0
    · exact Or.inr ⟨b, off, rfl, World.block_lt_of_cell? W _ (hI 0 (List.length_pos_iff.2 h0)).1, hI⟩
theorem Trs.below {W W' : World} {ao : Option Addr} {l : List Tr} (h : Trs W ao l) {B : Nat} (hB : Below B W W') (hs : W.heap.size ≤ B) : Trs W' ao l := by
  rcases h.lt with h | ⟨b, off, rfl, hb, hI⟩
  · exact Or.inl h
  · exact Or.inr ⟨b, off, rfl, fun j hj => ⟨(hB.cell (p := ⟨b, off + j * 3, none⟩) (by show b < B; omega)).trans (hI j hj).1, (hB.cell (p := ⟨b, off + j * 3 + 1, none⟩) (by show b < B; omega)).trans (hI j hj).2.1, (hB.cell (p := ⟨b, off + j * 3 + 2, none⟩) (by show b < B; omega)).trans (hI j hj).2.2⟩⟩

theorem Try.info71 : (Try.prog.info? 71).map (fun i => (i.zero, i.size, i.bytes)) = some (some (.agg #[.string ⟨#[]⟩, .string ⟨#[]⟩, .string ⟨#[]⟩]), 3, 48) := by kernel_rfl
theorem Try.info76 : (Try.prog.info? 76).map (fun i => (i.zero, i.size, i.bytes)) = some (some (.agg #[.string ⟨#[]⟩, .string ⟨#[]⟩, .string ⟨#[]⟩]), 3, 48) := by kernel_rfl

set_option maxHeartbeats 1000000 in
theorem clone16_some (a : Addr) (n cap : Nat) (l : List Tr) (w : World) (hI : Trs w (some a) l) (hn : l.length = n) (hm : (n : Int) ≤ 65536) :
    Calls Try.prog 16 #[.slice (some a) n cap] w fun e w' => e = .returned (.slice (some ⟨w.heap.size, 0, none⟩) n n) ∧ Trs w' (some ⟨w.heap.size, 0, none⟩) l ∧ Below w.heap.size w w' := by
  obtain ⟨i71, hi71, hz71, hs71, hb71⟩ := info_parts Try.info71
  have hnil := fun (W : World) (a : Option Addr) (n c n' c' : Nat) => Lib.run_eql_slice_nil (P := Try.prog) W _ _ a n c n' c' Try.underlying49
  have HI := hide hI.lt
  clear hI
  go_enter Try.func16, Try.ntmps16
  go_wp2_with (at_make; go_must (refine wpList_make_full _ rfl _ _ 49 rfl w.heap.size 71 i71 (.agg #[.string ⟨#[]⟩, .string ⟨#[]⟩, .string ⟨#[]⟩]) 3 Try.underlying49 hi71 hz71 hs71 .i64 .i64 _ _ n rfl rfl rfl rfl (by rw [hb71]; omega) (by unfold maxLen; omega) (Nat.le_refl _) ?_; intro w1 hown1 hg1))
  have hB1 : Below w.heap.size w w1 := (Below.refl _ _).grown hg1 (Nat.le_refl _) (fun k hk => by cases hk)
  go_loopw [4] (fun i wr => ∃ (j : Nat) (X : List Value), j ≤ n ∧ i = .int .i64 j ∧ wr.ownsRow w.heap.size 71 3 (.slice (some ⟨w.heap.size, 0, none⟩) n n) n X ∧ Hid (∀ q (h : q < l.length), q < j → X[q * 3]? = some (.string l[q].1) ∧ X[q * 3 + 1]? = some (.string l[q].2.1) ∧ X[q * 3 + 2]? = some (.string l[q].2.2)) ∧ Below w.heap.size w wr) (fun i _ => n - (intOf i).toNat)
  case atStart => exact ⟨0, _, Nat.zero_le _, rfl, hown1, fun q _ hq => absurd hq (by omega), hB1⟩
  case round =>
    obtain ⟨j, X, hj, rfl, hown, hX, hB⟩ := hrel
    clear hown1 hg1 hB1
    by_cases hlt : (j : Int) < (n : Int)
    · have hj' : j < l.length := by omega
      obtain ⟨b, off, rfl, hb, hI⟩ : ∃ b off, a = ⟨b, off, none⟩ ∧ b < w.heap.size ∧ ∀ j (h : j < l.length), w.cell? ⟨b, off + j * 3, none⟩ = some (.string l[j].1) ∧ w.cell? ⟨b, off + j * 3 + 1, none⟩ = some (.string l[j].2.1) ∧ w.cell? ⟨b, off + j * 3 + 2, none⟩ = some (.string l[j].2.2) := by
        rcases HI.out with h0 | ⟨g, o, hv, hbg, hI⟩
        · subst h0; simp at hj'
        · exact ⟨g, o, Option.some.inj hv, hbg, hI⟩
      obtain ⟨e0, e1, e2⟩ := hI j hj'
      have c0 := (hB.cell (p := ⟨b, off + j * 3, none⟩) hb).trans e0
      have c1 := (hB.cell (p := ⟨b, off + j * 3 + 1, none⟩) hb).trans e1
      have c2 := (hB.cell (p := ⟨b, off + j * 3 + 2, none⟩) hb).trans e2
      have hXl : X.length = n * 3 := hown.1
      have d0 := hown.cellAt (j * 3) (by omega)
      have d1 := hown.cellAt (j * 3 + 1) (by omega)
      have d2 := hown.cellAt (j * 3 + 2) (by omega)
      rw [List.getElem?_eq_getElem (by omega)] at d0 d1 d2
      have f0 := hown.frozenAt (j * 3)
      have f1 := hown.frozenAt (j * 3 + 1)
      have f2 := hown.frozenAt (j * 3 + 2)
      generalize X[j * 3] = x0 at d0
      generalize X[j * 3 + 1] = x1 at d1
      generalize X[j * 3 + 2] = x2 at d2
      have HX := hide (fun s0 s1 s2 (h : l[j] = (s0, s1, s2)) => show ∀ q (h : q < l.length), q < j + 1 → (((X.set (j * 3) (.string s0)).set (j * 3 + 1) (.string s1)).set (j * 3 + 2) (.string s2))[q * 3]? = some (.string l[q].1) ∧ (((X.set (j * 3) (.string s0)).set (j * 3 + 1) (.string s1)).set (j * 3 + 2) (.string s2))[q * 3 + 1]? = some (.string l[q].2.1) ∧ (((X.set (j * 3) (.string s0)).set (j * 3 + 1) (.string s1)).set (j * 3 + 2) (.string s2))[q * 3 + 2]? = some (.string l[q].2.2) from fun q hq hqj => by
        by_cases e : q = j
        · subst e
          rw [h]
          refine ⟨?_, ?_, ?_⟩
          · rw [List.getElem?_set_ne (by omega), List.getElem?_set_ne (by omega), List.getElem?_set_self (by omega)]
          · rw [List.getElem?_set_ne (by omega), List.getElem?_set_self (by simp; omega)]
          · rw [List.getElem?_set_self (by simp; omega)]
        · obtain ⟨g0, g1, g2⟩ := hX.out q hq (by omega)
          refine ⟨?_, ?_, ?_⟩
          · rw [List.getElem?_set_ne (by omega), List.getElem?_set_ne (by omega), List.getElem?_set_ne (by omega), g0]
          · rw [List.getElem?_set_ne (by omega), List.getElem?_set_ne (by omega), List.getElem?_set_ne (by omega), g1]
          · rw [List.getElem?_set_ne (by omega), List.getElem?_set_ne (by omega), List.getElem?_set_ne (by omega), g2])
      have hL : ∃ s0 s1 s2, l[j] = (s0, s1, s2) := ⟨_, _, _, rfl⟩
      obtain ⟨s0, s1, s2, hL⟩ := hL
      rw [hL] at c0 c1 c2
      simp only at c0 c1 c2
      have HL := hide hL
      clear hL e0 e1 e2 hI HI hX
      go_wp2_with fail
      go_roundw
      case rel =>
        exact ⟨j + 1, _, by omega, by go_num, (((hown.stored (j * 3) (.string s0)).1.stored (j * 3 + 1) (.string s1)).1.stored (j * 3 + 2) (.string s2)).1, HX.out _ _ _ HL.out, ((hB.setCell (Nat.le_refl _) _).setCell (Nat.le_refl _) _).setCell (Nat.le_refl _) _⟩
      case measure => simp [intOf]; omega
    · clear HI
      go_wp2_with fail
      go_ret
      refine ⟨rfl, Or.inr ⟨_, 0, rfl, fun q hq => ?_⟩, hB⟩
      obtain ⟨e0, e1, e2⟩ := hX.out q (by omega) (by omega)
      rw [Nat.zero_add]
      exact ⟨(hown.cellAt _ (by omega)).trans e0, (hown.cellAt _ (by omega)).trans e1, (hown.cellAt _ (by omega)).trans e2⟩
set_option maxHeartbeats 1000000 in
theorem clone16_nil (w : World) : Calls Try.prog 16 #[.slice none 0 0] w fun e w' => e = .returned (.slice none 0 0) ∧ w' = w := by
  have hnil := fun (W : World) (a : Option Addr) (n c n' c' : Nat) => Lib.run_eql_slice_nil (P := Try.prog) W _ _ a n c n' c' Try.underlying49
  go_enter Try.func16, Try.ntmps16
  go_wp2
  go_ret
  exact ⟨rfl, rfl⟩

theorem clone16 (ao : Option Addr) (n cap : Nat) (l : List Tr) (w : World) (hI : Trs w ao l) (hnil : ao = none → n = 0 ∧ cap = 0) (hn : l.length = n) (hm : (n : Int) ≤ 65536) :
    Calls Try.prog 16 #[.slice ao n cap] w fun e w' => ∃ ao', e = .returned (.slice ao' n n) ∧ Trs w' ao' l ∧ (ao' = none → n = 0 ∧ n = 0) ∧ Below w.heap.size w w' := by
  cases ao with
  | none =>
    obtain ⟨rfl, rfl⟩ := hnil rfl
    obtain rfl := List.eq_nil_of_length_eq_zero hn
    refine (clone16_nil w).mono ?_
    rintro e w' ⟨rfl, rfl⟩
    exact ⟨none, rfl, Or.inl rfl, fun _ => ⟨rfl, rfl⟩, Below.refl _ _⟩
  | some a =>
    refine (clone16_some a n cap l w hI hn hm).mono ?_
    rintro e w' ⟨rfl, h1, h2⟩
    exact ⟨some _, rfl, h1, (fun h => by cases h), h2⟩

set_option maxHeartbeats 1000000 in
theorem toReg18_some (a : Addr) (n cap : Nat) (l : List Tr) (w : World) (hI : Trs w (some a) l) (hn : l.length = n) (hm : (n : Int) ≤ 65536) :
    Calls Try.prog 18 #[.slice (some a) n cap] w fun e w' => e = .returned (.slice (some ⟨w.heap.size, 0, none⟩) n n) ∧ Trs w' (some ⟨w.heap.size, 0, none⟩) l ∧ Below w.heap.size w w' := by
  obtain ⟨i76, hi76, hz76, hs76, hb76⟩ := info_parts Try.info76
  have hnil := fun (W : World) (a : Option Addr) (n c n' c' : Nat) => Lib.run_eql_slice_nil (P := Try.prog) W _ _ a n c n' c' Try.underlying49
  have HI := hide hI.lt
  clear hI
  go_enter Try.func18, Try.ntmps18
  go_wp2_with (at_make; go_must (refine wpList_make_full _ rfl _ _ 54 rfl w.heap.size 76 i76 (.agg #[.string ⟨#[]⟩, .string ⟨#[]⟩, .string ⟨#[]⟩]) 3 Try.underlying54 hi76 hz76 hs76 .i64 .i64 _ _ n rfl rfl rfl rfl (by rw [hb76]; omega) (by unfold maxLen; omega) (Nat.le_refl _) ?_; intro w1 hown1 hg1))
  have hB1 : Below w.heap.size w w1 := (Below.refl _ _).grown hg1 (Nat.le_refl _) (fun k hk => by cases hk)
  go_loopw [4] (fun i wr => ∃ (j : Nat) (X : List Value), j ≤ n ∧ i = .int .i64 j ∧ wr.ownsRow w.heap.size 76 3 (.slice (some ⟨w.heap.size, 0, none⟩) n n) n X ∧ Hid (∀ q (h : q < l.length), q < j → X[q * 3]? = some (.string l[q].1) ∧ X[q * 3 + 1]? = some (.string l[q].2.1) ∧ X[q * 3 + 2]? = some (.string l[q].2.2)) ∧ Below w.heap.size w wr) (fun i _ => n - (intOf i).toNat)
  case atStart => exact ⟨0, _, Nat.zero_le _, rfl, hown1, fun q _ hq => absurd hq (by omega), hB1⟩
  case round =>
    obtain ⟨j, X, hj, rfl, hown, hX, hB⟩ := hrel
    clear hown1 hg1 hB1
    by_cases hlt : (j : Int) < (n : Int)
    · have hj' : j < l.length := by omega
      obtain ⟨b, off, rfl, hb, hI⟩ : ∃ b off, a = ⟨b, off, none⟩ ∧ b < w.heap.size ∧ ∀ j (h : j < l.length), w.cell? ⟨b, off + j * 3, none⟩ = some (.string l[j].1) ∧ w.cell? ⟨b, off + j * 3 + 1, none⟩ = some (.string l[j].2.1) ∧ w.cell? ⟨b, off + j * 3 + 2, none⟩ = some (.string l[j].2.2) := by
        rcases HI.out with h0 | ⟨g, o, hv, hbg, hI⟩
        · subst h0; simp at hj'
        · exact ⟨g, o, Option.some.inj hv, hbg, hI⟩
      obtain ⟨e0, e1, e2⟩ := hI j hj'
      have c0 := (hB.cell (p := ⟨b, off + j * 3, none⟩) hb).trans e0
      have c1 := (hB.cell (p := ⟨b, off + j * 3 + 1, none⟩) hb).trans e1
      have c2 := (hB.cell (p := ⟨b, off + j * 3 + 2, none⟩) hb).trans e2
      have hXl : X.length = n * 3 := hown.1
      have d0 := hown.cellAt (j * 3) (by omega)
      have d1 := hown.cellAt (j * 3 + 1) (by omega)
      have d2 := hown.cellAt (j * 3 + 2) (by omega)
      rw [List.getElem?_eq_getElem (by omega)] at d0 d1 d2
      have f0 := hown.frozenAt (j * 3)
      have f1 := hown.frozenAt (j * 3 + 1)
      have f2 := hown.frozenAt (j * 3 + 2)
      generalize X[j * 3] = x0 at d0
      generalize X[j * 3 + 1] = x1 at d1
      generalize X[j * 3 + 2] = x2 at d2
      have HX := hide (fun s0 s1 s2 (h : l[j] = (s0, s1, s2)) => show ∀ q (h : q < l.length), q < j + 1 → (((X.set (j * 3) (.string s0)).set (j * 3 + 1) (.string s1)).set (j * 3 + 2) (.string s2))[q * 3]? = some (.string l[q].1) ∧ (((X.set (j * 3) (.string s0)).set (j * 3 + 1) (.string s1)).set (j * 3 + 2) (.string s2))[q * 3 + 1]? = some (.string l[q].2.1) ∧ (((X.set (j * 3) (.string s0)).set (j * 3 + 1) (.string s1)).set (j * 3 + 2) (.string s2))[q * 3 + 2]? = some (.string l[q].2.2) from fun q hq hqj => by
        by_cases e : q = j
        · subst e
          rw [h]
          refine ⟨?_, ?_, ?_⟩
          · rw [List.getElem?_set_ne (by omega), List.getElem?_set_ne (by omega), List.getElem?_set_self (by omega)]
          · rw [List.getElem?_set_ne (by omega), List.getElem?_set_self (by simp; omega)]
          · rw [List.getElem?_set_self (by simp; omega)]
        · obtain ⟨g0, g1, g2⟩ := hX.out q hq (by omega)
          refine ⟨?_, ?_, ?_⟩
          · rw [List.getElem?_set_ne (by omega), List.getElem?_set_ne (by omega), List.getElem?_set_ne (by omega), g0]
          · rw [List.getElem?_set_ne (by omega), List.getElem?_set_ne (by omega), List.getElem?_set_ne (by omega), g1]
          · rw [List.getElem?_set_ne (by omega), List.getElem?_set_ne (by omega), List.getElem?_set_ne (by omega), g2])
      have hL : ∃ s0 s1 s2, l[j] = (s0, s1, s2) := ⟨_, _, _, rfl⟩
      obtain ⟨s0, s1, s2, hL⟩ := hL
      rw [hL] at c0 c1 c2
      simp only at c0 c1 c2
      have HL := hide hL
      clear hL e0 e1 e2 hI HI hX
      have hne : b ≠ w.heap.size := by omega
      have KK := hide (show ∀ u0 u1 u2 : Value, let W := ((wr.setCell ⟨w.heap.size, j * 3, none⟩ u0).setCell ⟨w.heap.size, j * 3 + 1, none⟩ u1).setCell ⟨w.heap.size, j * 3 + 2, none⟩ u2; W.cell? ⟨b, off + j * 3, none⟩ = some (.string s0) ∧ W.cell? ⟨b, off + j * 3 + 1, none⟩ = some (.string s1) ∧ W.cell? ⟨b, off + j * 3 + 2, none⟩ = some (.string s2) from fun u0 u1 u2 => by
        refine ⟨?_, ?_, ?_⟩
        · rw [World.cell?_setCell_other _ _ _ _ (fun e => hne (congrArg Addr.block e).symm), World.cell?_setCell_other _ _ _ _ (fun e => hne (congrArg Addr.block e).symm), World.cell?_setCell_other _ _ _ _ (fun e => hne (congrArg Addr.block e).symm)]; exact c0
        · rw [World.cell?_setCell_other _ _ _ _ (fun e => hne (congrArg Addr.block e).symm), World.cell?_setCell_other _ _ _ _ (fun e => hne (congrArg Addr.block e).symm), World.cell?_setCell_other _ _ _ _ (fun e => hne (congrArg Addr.block e).symm)]; exact c1
        · rw [World.cell?_setCell_other _ _ _ _ (fun e => hne (congrArg Addr.block e).symm), World.cell?_setCell_other _ _ _ _ (fun e => hne (congrArg Addr.block e).symm), World.cell?_setCell_other _ _ _ _ (fun e => hne (congrArg Addr.block e).symm)]; exact c2)
      have h0j : (0 : Int) ≤ (j : Int) := by omega
      have hnn : (j : Int) < (n : Int) := hlt
      go_wp2_with fail
      go_region_held3 (fun w' => w'.cell? ⟨b, off + j * 3, none⟩ = some (.string s0) ∧ w'.cell? ⟨b, off + j * 3 + 1, none⟩ = some (.string s1) ∧ w'.cell? ⟨b, off + j * 3 + 2, none⟩ = some (.string s2)) (first | exact ⟨c0, c1, c2⟩ | exact KK.out _ _ _) (fail)
      go_wp2_with fail
      go_roundw
      case rel =>
        exact ⟨j + 1, _, by omega, by go_num, (((hown.stored (j * 3) (.string s0)).1.stored (j * 3 + 1) (.string s1)).1.stored (j * 3 + 2) (.string s2)).1, HX.out _ _ _ HL.out, (((hB.setCell (Nat.le_refl _) _).setCell (Nat.le_refl _) _).setCell (Nat.le_refl _) _).drew⟩
      case measure => simp [intOf]; omega
    · clear HI
      go_wp2_with fail
      go_ret
      refine ⟨rfl, Or.inr ⟨_, 0, rfl, fun q hq => ?_⟩, hB⟩
      obtain ⟨e0, e1, e2⟩ := hX.out q (by omega) (by omega)
      rw [Nat.zero_add]
      exact ⟨(hown.cellAt _ (by omega)).trans e0, (hown.cellAt _ (by omega)).trans e1, (hown.cellAt _ (by omega)).trans e2⟩
set_option maxHeartbeats 1000000 in
theorem toReg18_nil (w : World) : Calls Try.prog 18 #[.slice none 0 0] w fun e w' => e = .returned (.slice none 0 0) ∧ w' = w := by
  have hnil := fun (W : World) (a : Option Addr) (n c n' c' : Nat) => Lib.run_eql_slice_nil (P := Try.prog) W _ _ a n c n' c' Try.underlying49
  go_enter Try.func18, Try.ntmps18
  go_wp2
  go_ret
  exact ⟨rfl, rfl⟩

theorem toReg18 (ao : Option Addr) (n cap : Nat) (l : List Tr) (w : World) (hI : Trs w ao l) (hnil : ao = none → n = 0 ∧ cap = 0) (hn : l.length = n) (hm : (n : Int) ≤ 65536) :
    Calls Try.prog 18 #[.slice ao n cap] w fun e w' => ∃ ao', e = .returned (.slice ao' n n) ∧ Trs w' ao' l ∧ (ao' = none → n = 0 ∧ n = 0) ∧ Below w.heap.size w w' := by
  cases ao with
  | none =>
    obtain ⟨rfl, rfl⟩ := hnil rfl
    obtain rfl := List.eq_nil_of_length_eq_zero hn
    refine (toReg18_nil w).mono ?_
    rintro e w' ⟨rfl, rfl⟩
    exact ⟨none, rfl, Or.inl rfl, fun _ => ⟨rfl, rfl⟩, Below.refl _ _⟩
  | some a =>
    refine (toReg18_some a n cap l w hI hn hm).mono ?_
    rintro e w' ⟨rfl, h1, h2⟩
    exact ⟨some _, rfl, h1, (fun h => by cases h), h2⟩

end Go.Proofs.Qxb6002694a

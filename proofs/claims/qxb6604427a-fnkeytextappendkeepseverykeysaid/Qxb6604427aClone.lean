/-
  zzCloneItems (17), zzCloneBytes (18), zzSameText (11), zzSameBytes (23), ZZnewTape (20).
-/
import Derived.Test.Qxb6604427aGuards
namespace Go.Proofs.Qxb6604427a
open Go Go.RowKit
set_option maxRecDepth 100000
attribute [local go_sem ↓] Go.wp_at_zero Go.wp_at_succ

theorem Try.info49 : (Try.prog.info? 49).map (fun i => (i.zero, i.size, i.bytes)) = some (some (.agg #[.int .u8 0, .string ⟨#[]⟩]), 2, 24) := by kernel_rfl

theorem newTape_any (ao : Option Addr) (m c : Nat) (n : Int) (w : World) : Calls Try.prog 20 #[.slice ao m c, .int .i64 n] w fun e w' => e = .returned (.pointer (some ⟨w.heap.size, 0, none⟩)) ∧ w' = w.alloc (.cells #[.slice ao m c, .int .i64 n] 65) := by
  go_enter Try.func20, Try.ntmps20
  go_wp2
  go_ret
  exact ⟨rfl, rfl⟩

set_option maxHeartbeats 1000000 in
theorem clone17 (b off n cap : Nat) (l : List (Nat × ByteArray)) (w : World) (hI : ∀ j (h : j < l.length), w.cell? ⟨b, off + j * 2, none⟩ = some (.int .u8 (l[j].1 : Int)) ∧ w.cell? ⟨b, off + j * 2 + 1, none⟩ = some (.string l[j].2)) (hb : b < w.heap.size) (hn : l.length = n) (hm : (n : Int) ≤ 1048576) :
    Calls Try.prog 17 #[.slice (some ⟨b, off, none⟩) n cap] w fun e w' => e = .returned (.slice (some ⟨w.heap.size, 0, none⟩) n n) ∧ ItemsAt w' w.heap.size l ∧ Below w.heap.size w w' := by
  obtain ⟨i49, hi49, hz49, hs49, hb49⟩ := info_parts Try.info49
  have hnil := fun (W : World) (a : Option Addr) (n c n' c' : Nat) => Lib.run_eql_slice_nil (P := Try.prog) W _ _ a n c n' c' Try.underlying31
  go_enter Try.func17, Try.ntmps17
  go_wp2_with (at_make; go_must (refine wpList_make_full _ rfl _ _ 31 rfl w.heap.size 49 i49 (.agg #[.int .u8 0, .string ⟨#[]⟩]) 2 Try.underlying31 hi49 hz49 hs49 .i64 .i64 _ _ n rfl rfl rfl rfl (by rw [hb49]; omega) (by unfold maxLen; omega) (Nat.le_refl _) ?_; intro w1 hown1 hg1))
  have hB1 : Below w.heap.size w w1 := (Below.refl _ _).grown hg1 (Nat.le_refl _) (fun k hk => by cases hk)
  have hs1 : w.heap.size < w1.heap.size := (hown1.lt _ rfl).2
  go_loopw [4] (fun i wr => ∃ (j : Nat) (X : List Value), j ≤ n ∧ i = .int .i64 j ∧ wr.ownsRow w.heap.size 49 2 (.slice (some ⟨w.heap.size, 0, none⟩) n n) n X ∧ Hid (∀ q (h : q < l.length), q < j → X[q * 2]? = some (.int .u8 (l[q].1 : Int)) ∧ X[q * 2 + 1]? = some (.string l[q].2)) ∧ Below w.heap.size w wr) (fun i _ => n - (intOf i).toNat)
  case atStart => exact ⟨0, _, Nat.zero_le _, rfl, hown1, fun q _ hq => absurd hq (by omega), hB1⟩
  case round =>
    obtain ⟨j, X, hj, rfl, hown, hX, hB⟩ := hrel
    clear hown1 hg1 hB1 hs1
    by_cases hlt : (j : Int) < (n : Int)
    · have hj' : j < l.length := by omega
      obtain ⟨ck0, cs0⟩ := hI j hj'
      have ck : wr.cell? ⟨b, off + j * 2, none⟩ = some (.int .u8 (l[j].1 : Int)) := (hB.cell (p := ⟨b, off + j * 2, none⟩) hb).trans ck0
      have cs : wr.cell? ⟨b, off + j * 2 + 1, none⟩ = some (.string l[j].2) := (hB.cell (p := ⟨b, off + j * 2 + 1, none⟩) hb).trans cs0
      have hXl : X.length = n * 2 := hown.1
      have d0 := hown.cellAt (j * 2) (by omega)
      have d1 := hown.cellAt (j * 2 + 1) (by omega)
      rw [List.getElem?_eq_getElem (by omega)] at d0 d1
      have f0 := hown.frozenAt (j * 2)
      have f1 := hown.frozenAt (j * 2 + 1)
      generalize X[j * 2] = x0 at d0
      generalize X[j * 2 + 1] = x1 at d1
      generalize hl1 : l[j].1 = k at *
      generalize hl2 : l[j].2 = s at *
      have H1 := hide hl1
      have H2 := hide hl2
      clear hl1 hl2 ck0 cs0
      have hne : b ≠ w.heap.size := by omega
      have kk : ∀ u u' : Value, ((wr.setCell ⟨w.heap.size, j * 2, none⟩ u).setCell ⟨w.heap.size, j * 2 + 1, none⟩ u').cell? ⟨b, off + j * 2, none⟩ = some (.int .u8 (k : Int)) ∧ ((wr.setCell ⟨w.heap.size, j * 2, none⟩ u).setCell ⟨w.heap.size, j * 2 + 1, none⟩ u').cell? ⟨b, off + j * 2 + 1, none⟩ = some (.string s) := fun u u' => by
        constructor
        · rw [World.cell?_setCell_other _ _ _ _ (fun e => hne (congrArg Addr.block e).symm), World.cell?_setCell_other _ _ _ _ (fun e => hne (congrArg Addr.block e).symm)]; exact ck
        · rw [World.cell?_setCell_other _ _ _ _ (fun e => hne (congrArg Addr.block e).symm), World.cell?_setCell_other _ _ _ _ (fun e => hne (congrArg Addr.block e).symm)]; exact cs
      have KK := hide kk
      clear kk
      have h0j : (0 : Int) ≤ (j : Int) := by omega
      have hnn : (j : Int) < (n : Int) := hlt
      go_wp2_with fail
      go_region_held3 (fun w' => w'.cell? ⟨b, off + j * 2, none⟩ = some (.int .u8 (k : Int)) ∧ w'.cell? ⟨b, off + j * 2 + 1, none⟩ = some (.string s)) (first | exact ⟨ck, cs⟩ | exact KK.out _ _) (fail)
      go_wp2
      go_roundw
      case rel =>
        have st := ((hown.stored (j * 2) (.int .u8 (k : Int))).1.stored (j * 2 + 1) (.string s)).1
        refine ⟨j + 1, (X.set (j * 2) (.int .u8 (k : Int))).set (j * 2 + 1) (.string s), by omega, by go_num, st, ?_, ((hB.setCell (Nat.le_refl _) _).setCell (Nat.le_refl _) _).drew⟩
        intro q hq hqj
        by_cases e : q = j
        · subst e
          rw [List.getElem?_set_ne (by omega), List.getElem?_set_self (by omega), List.getElem?_set_self (by simp; omega), H1.out, H2.out]
          exact ⟨rfl, rfl⟩
        · rw [List.getElem?_set_ne (by omega), List.getElem?_set_ne (by omega), List.getElem?_set_ne (by omega), List.getElem?_set_ne (by omega)]
          exact hX.out q hq (by omega)
      case measure => simp [intOf]; omega
    · go_wp2
      go_ret
      refine ⟨rfl, fun q hq => ?_, hB⟩
      obtain ⟨e1, e2⟩ := hX.out q (by omega) (by omega)
      exact ⟨(hown.cellAt _ (by omega)).trans e1, (hown.cellAt _ (by omega)).trans e2⟩

/-- Bytes that a slice value leads to. -/
def Holds (w : World) (v : Value) (l : List Nat) : Prop := (l = [] ∧ ∃ ao c, v = .slice ao 0 c) ∨ ∃ g o c, v = .slice (some ⟨g, o, none⟩) l.length c ∧ ∀ j (h : j < l.length), w.cell? ⟨g, o + j, none⟩ = some (.int .u8 (l[j] : Int))

set_option maxHeartbeats 1000000 in
/-- zzCloneBytes of a slice that is not nil. -/
theorem clone18 (ao : Option Addr) (hao : ao.isNone = false) (n cap : Nat) (l : List Nat) (w : World) (hI : Holds w (.slice ao n cap) l) (hb : ∀ a, ao = some a → 0 < n → a.block < w.heap.size) (hn : l.length = n) (hm : (n : Int) ≤ 1048576) :
    Calls Try.prog 18 #[.slice ao n cap] w fun e w' => e = .returned (.slice (some ⟨w.heap.size, 0, none⟩) n n) ∧ w'.ownsRow w.heap.size 5 1 (.slice (some ⟨w.heap.size, 0, none⟩) n n) n (bc l) ∧ Below w.heap.size w w' := by
  obtain ⟨i5, hi5, hz5, hs5, hb5⟩ := info_parts Try.info5
  have hnil := fun (W : World) (a : Option Addr) (n c n' c' : Nat) => Lib.run_eql_slice_nil (P := Try.prog) W _ _ a n c n' c' Try.underlying29
  go_enter Try.func18, Try.ntmps18
  go_wp2_with (at_make; go_must (refine wpList_make_full _ rfl _ _ 29 rfl w.heap.size 5 i5 (.int .u8 0) 1 Try.underlying29 hi5 hz5 hs5 .i64 .i64 _ _ n rfl rfl rfl rfl (by rw [hb5]; omega) (by unfold maxLen; omega) (Nat.le_refl _) ?_; intro w1 hown1 hg1))
  have hB1 : Below w.heap.size w w1 := (Below.refl _ _).grown hg1 (Nat.le_refl _) (fun k hk => by cases hk)
  go_loopw [4] (fun i wr => ∃ (j : Nat) (X : List Value), j ≤ n ∧ i = .int .i64 j ∧ wr.ownsRow w.heap.size 5 1 (.slice (some ⟨w.heap.size, 0, none⟩) n n) n X ∧ Hid (∀ q (h : q < l.length), q < j → X[q]? = some (.int .u8 (l[q] : Int))) ∧ Below w.heap.size w wr) (fun i _ => n - (intOf i).toNat)
  case atStart => exact ⟨0, _, Nat.zero_le _, rfl, hown1, fun q _ hq => absurd hq (by omega), hB1⟩
  case round =>
    obtain ⟨j, X, hj, rfl, hown, hX, hB⟩ := hrel
    clear hown1 hg1 hB1
    by_cases hlt : (j : Int) < (n : Int)
    · have hj' : j < l.length := by omega
      rcases hI with ⟨h0, _⟩ | ⟨g, o, c, hv, hI⟩
      · subst h0; simp at hj'
      simp only [Value.slice.injEq] at hv
      obtain ⟨rfl, hv2, rfl⟩ := hv
      clear hv2
      have ck0 := hI j hj'
      have hbg : g < w.heap.size := hb _ rfl (by omega)
      have ck : wr.cell? ⟨g, o + j, none⟩ = some (.int .u8 (l[j] : Int)) := (hB.cell (p := ⟨g, o + j, none⟩) hbg).trans ck0
      have hXl : X.length = n * 1 := hown.1
      have d0 := hown.cellAt j (by omega)
      rw [List.getElem?_eq_getElem (by omega)] at d0
      have f0 := hown.frozenAt j
      generalize X[j] = x0 at d0
      generalize hl1 : l[j] = k at *
      have H1 := hide hl1
      clear hl1 ck0
      go_wp2
      go_roundw
      case rel =>
        refine ⟨j + 1, X.set j (.int .u8 (k : Int)), by omega, by go_num, (hown.stored j _).1, ?_, hB.setCell (Nat.le_refl _) _⟩
        intro q hq hqj
        by_cases e : q = j
        · subst e
          rw [List.getElem?_set_self (by omega), H1.out]
        · rw [List.getElem?_set_ne (by omega)]
          exact hX.out q hq (by omega)
      case measure => simp [intOf]; omega
    · go_wp2
      go_ret
      refine ⟨rfl, ?_, hB⟩
      have e : X = bc l := by
        refine List.ext_getElem? fun q => ?_
        have hXl : X.length = n * 1 := hown.1
        by_cases hq : q < n
        · rw [hX.out q (by omega) (by omega)]; simp [bc, hn, hq]
        · rw [List.getElem?_eq_none (by omega), List.getElem?_eq_none (by simp [bc]; omega)]
      rw [← e]; exact hown

theorem clone18_nil (w : World) : Calls Try.prog 18 #[.slice none 0 0] w fun e w' => e = .returned (.slice none 0 0) ∧ w' = w := by
  have hnil := fun (W : World) (a : Option Addr) (n c n' c' : Nat) => Lib.run_eql_slice_nil (P := Try.prog) W _ _ a n c n' c' Try.underlying29
  go_enter Try.func18, Try.ntmps18
  go_wp2
  go_ret
  exact ⟨rfl, rfl⟩
end Go.Proofs.Qxb6604427a

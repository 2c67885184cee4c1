/-
  phases (28), ZZPhases (17).
-/
import Derived.Test.Qxb6002694aTrClone
namespace Go.Proofs.Qxb6002694a
open Go Go.RowKit
set_option maxRecDepth 100000
attribute [local go_sem ↓] Go.wp_at_zero Go.wp_at_succ

/-- Strings as cells. -/
def sc (l : List ByteArray) : List Value := l.map Value.string
theorem sc_one (a : List ByteArray) : ∀ u ∈ sc a, u.oneCell' = true := by
  intro u hu; obtain ⟨_, _, rfl⟩ := List.mem_map.1 hu; rfl
theorem Try.info9 : (Try.prog.info? 9).map (fun i => (i.zero, i.size, i.bytes)) = some (some (.string ⟨#[]⟩), 1, 16) := by kernel_rfl
theorem src_oneS (w : World) (x : ByteArray) : Src Try.prog 1 52 (.slice (some ⟨w.heap.size, 0, none⟩) 1 1) 1 (sc [x]) (w.alloc (.cells #[.string x] 9)) :=
  Src.ofSlice _ Try.underlying52 _ _ _ _ rfl (cell_one_new _ _ _) (sc_one _)

theorem own_strs {w : World} {B n : Nat} {v : Value} {l : List ByteArray} (h : w.ownsRow B 9 1 v n (sc l)) : Strs w v l := by
  have hl : l.length = n := by have := h.1; simpa [sc] using this
  subst hl
  rcases h.2 with ⟨rfl, h0⟩ | ⟨g, c, cur, rfl, _⟩
  · exact Or.inl ⟨List.eq_nil_of_length_eq_zero h0, _, _, rfl⟩
  · refine Or.inr ⟨g, 0, c, rfl, fun j hj => ?_⟩
    rw [Nat.zero_add, h.cellAt j (by omega)]
    simp [sc, hj]

theorem noPhase_iff (x : ByteArray) : x.toList = [110, 111, 110, 101] ↔ x = noPhase := by
  rw [← Lib.bytes_beq_iff, beq_iff_eq, ByteArray.toList_eq noPhase]; rfl

set_option maxHeartbeats 4000000 in
theorem phases28 (ao : Option Addr) (n cap : Nat) (l : List Tr) (w : World) (hI : Trs w ao l) (hn : l.length = n) (hm : (n : Int) ≤ 65536) :
    Calls Try.prog 28 #[.agg #[.bool false, .string ⟨#[]⟩, .slice none 0 0, .string ⟨#[]⟩, .slice ao n cap]] w fun e w' => ∃ v, e = .returned v ∧ w'.ownsRow w.heap.size 9 1 v (ph l (2 * n)).length (sc (ph l (2 * n))) ∧ Below w.heap.size w w' := by
  have HI := hide hI.lt
  clear hI
  go_enter Try.func28, Try.ntmps28
  go_wp2_with fail
  go_loopw [3, 11] (fun v i wr => ∃ j : Nat, j ≤ n ∧ i = .int .i64 j ∧ wr.ownsRow w.heap.size 9 1 v (ph l (2 * j)).length (sc (ph l (2 * j))) ∧ Below w.heap.size w wr) (fun _ i _ => n - (intOf i).toNat)
  case atStart => exact ⟨0, Nat.zero_le _, rfl, World.ownsRow_nil _ _ _ _, (Below.refl _ _).alloc (Nat.le_refl _) _⟩
  case round =>
    obtain ⟨j, hj, rfl, hown, hB⟩ := hrel
    by_cases hlt : (j : Int) < (n : Int)
    · have hj' : j < l.length := by omega
      obtain ⟨b, off, rfl, hb, hI⟩ : ∃ b off, ao = some ⟨b, off, none⟩ ∧ b < w.heap.size ∧ ∀ j (h : j < l.length), w.cell? ⟨b, off + j * 3, none⟩ = some (.string l[j].1) ∧ w.cell? ⟨b, off + j * 3 + 1, none⟩ = some (.string l[j].2.1) ∧ w.cell? ⟨b, off + j * 3 + 2, none⟩ = some (.string l[j].2.2) := by
        rcases HI.out with h0 | h
        · subst h0; simp at hj'
        · exact h
      obtain ⟨e0, e1, e2⟩ := hI j hj'
      have c0 := (hB.cell (p := ⟨b, off + j * 3, none⟩) hb).trans e0
      have c1 := (hB.cell (p := ⟨b, off + j * 3 + 1, none⟩) hb).trans e1
      have c2 := (hB.cell (p := ⟨b, off + j * 3 + 2, none⟩) hb).trans e2
      have HE := hide (show ep l (2 * j) = l[j].1 ∧ ep l (2 * j + 1) = l[j].2.2 by
        unfold ep
        rw [if_pos (by omega), if_neg (by omega), show 2 * j / 2 = j by omega, show (2 * j + 1) / 2 = j by omega, List.getD_eq_getElem?_getD, List.getElem?_eq_getElem hj']
        exact ⟨rfl, rfl⟩)
      generalize l[j] = x at *
      obtain ⟨s0, s1, s2⟩ := x
      simp only at c0 c1 c2 HE
      clear e0 e1 e2 hI HI
      go_wp2_with fail
      have HO1 := hide ((hown.alloc (.cells #[.string s0, .string s1, .string s2] 76)).alloc (.cells #[.string s0, .string s2] 9))
      have HB1 := hide ((hB.alloc hB.size (.cells #[.string s0, .string s1, .string s2] 76)).alloc (by have := hB.size; simp; omega) (.cells #[.string s0, .string s2] 9))
      have d0 : ((wr.alloc (.cells #[.string s0, .string s1, .string s2] 76)).alloc (.cells #[.string s0, .string s2] 9)).cell? ⟨wr.heap.size + 1, 0, none⟩ = some (.string s0) := by rw [World.cell?_alloc_at _ _ _ _ (by simp)]; rfl
      have d1 : ((wr.alloc (.cells #[.string s0, .string s1, .string s2] 76)).alloc (.cells #[.string s0, .string s2] 9)).cell? ⟨wr.heap.size + 1, 1, none⟩ = some (.string s2) := by rw [World.cell?_alloc_at _ _ _ _ (by simp)]; rfl
      have HNE := hide (show u3.ownBlock ≠ some (wr.heap.size + 1) from fun e => by have := (hown.lt _ e).2; omega)
      have HD := hide (show ∀ q, q < 2 → ((wr.alloc (.cells #[.string s0, .string s1, .string s2] 76)).alloc (.cells #[.string s0, .string s2] 9)).cell? ⟨wr.heap.size + 1, q, none⟩ = some (.string (ep l (2 * j + q))) from fun q hq => by
        obtain ⟨h0, h1⟩ := HE.out
        rcases (show q = 0 ∨ q = 1 by omega) with rfl | rfl
        · rw [show 2 * j + 0 = 2 * j from rfl, h0]; exact d0
        · rw [h1]; exact d1)
      have hwp : w.heap.size ≤ wr.heap.size + 1 := Nat.le_succ_of_le hB.size
      clear d0 d1 c0 c1 c2 hown hB HE
      generalize ((wr.alloc (.cells #[.string s0, .string s1, .string s2] 76)).alloc (.cells #[.string s0, .string s2] 9)) = w1 at *
      generalize hP : wr.heap.size + 1 = P at *
      clear hP
      go_loopw [3, 21] (fun v i wd => ∃ q : Nat, q ≤ 2 ∧ i = .int .i64 q ∧ wd.ownsRow w.heap.size 9 1 v (ph l (2 * j + q)).length (sc (ph l (2 * j + q))) ∧ Hid (v.ownBlock ≠ some P) ∧ Hid (∀ q, q < 2 → wd.cell? ⟨P, q, none⟩ = some (.string (ep l (2 * j + q)))) ∧ Below w.heap.size w wd) (fun _ i _ => 2 - (intOf i).toNat)
      case atStart => exact ⟨0, by omega, rfl, HO1.out, HNE, HD, HB1.out⟩
      case round =>
        clear HO1 HNE HD HB1
        obtain ⟨q, hq, rfl, hown, hne, hD, hB⟩ := hrel
        by_cases hlt2 : (q : Int) < 2
        · have cx := hD.out q (by omega)
          have HP := hide (show ph l (2 * j + (q + 1)) = addp (ph l (2 * j + q)) (ep l (2 * j + q)) from rfl)
          have hlen := ph_len l (2 * j + q)
          generalize ep l (2 * j + q) = x at *
          obtain ⟨av, cv, rfl⟩ := own_shape hown
          generalize ph l (2 * j + q) = L at *
          by_cases hx : x = noPhase
          · have hd : x.toList = [110, 111, 110, 101] := (noPhase_iff x).2 hx
            have HL := hide (show addp L x = L by unfold addp; rw [if_neg (fun h => h.1 hx)])
            clear hx
            go_wp2_with fail
            go_roundw
            case rel => exact ⟨q + 1, by omega, by go_num, by rw [HP.out, HL.out]; exact hown, hne, hD, hB⟩
            case measure => simp [intOf]; omega
          · have hd : ¬ x.toList = [110, 111, 110, 101] := fun h => hx ((noPhase_iff x).1 h)
            have hd2 : (x.toList == [110, 111, 110, 101]) = false := beq_eq_false_iff_ne.2 hd
            have C29 := hide (contains29 (.slice av L.length cv) L x wr (own_strs hown) (by omega))
            have HX := hide hx
            clear hx
            go_wp2_with fail
            refine (unhide C29).mono ?_
            rintro e w2 ⟨⟨r, rfl, hr⟩, hw2⟩
            rw [hw2]
            clear hw2 C29
            cases r with
            | true =>
              have HL := hide (show addp L x = L by unfold addp; rw [if_neg (fun h => h.2 (hr.1 rfl))])
              clear hr
              go_wp2_with fail
              go_roundw
              case rel => exact ⟨q + 1, by omega, by go_num, by rw [HP.out, HL.out]; exact hown, hne, hD, hB⟩
              case measure => simp [intOf]; omega
            | false =>
              have HL := hide (show addp L x = L ++ [x] by unfold addp; rw [if_pos ⟨HX.out, fun h => by have := hr.2 h; cases this⟩])
              clear hr
              have hBs := hB.size
              go_wp2_with (at_builtin; go_must (refine wpList_append_src _ rfl (.tmp 33) (.tmp 35) 52 52 rfl w.heap.size 9 (.string ⟨#[]⟩) 1 16 Try.underlying52 Try.info9 rfl _ _ _ rfl (hown.alloc _) _ 1 (sc [x]) rfl (src_oneS wr x) (by unfold maxLen; omega) (by omega) (by simp; omega) ?_; intro v1 w1 hown1 hg1 hl1 hc1))
              go_roundw
              case rel =>
                refine ⟨q + 1, by omega, by go_num, ?_, ?_, ?_, (hB.alloc hB.size _).grown hg1 (by simp; omega) (fun k hk => (hown.lt k hk).1)⟩
                · rw [HP.out, HL.out]; simpa [sc] using hown1
                · show v1.ownBlock ≠ some P
                  have hPl := World.block_lt_of_cell? wr _ cx
                  rcases hl1 with h | h
                  · rw [h]; exact hne.out
                  · rw [h]
                    intro e
                    have e := Option.some.inj e
                    simp at e hPl
                    omega
                · intro i hi
                  exact hg1.cell (cell_alloc (hD.out i hi) _) (fun e => hne.out e.symm)
              case measure => simp [intOf]; omega
        · have hq2 : q = 2 := by omega
          subst hq2
          go_wp2_with fail
          go_roundw
          case rel => exact ⟨j + 1, by omega, by go_num, hown, hB⟩
          case measure => simp [intOf]; omega
    · have hjn : j = n := by omega
      subst hjn
      go_wp2_with fail
      go_ret
      exact ⟨_, rfl, hown, hB⟩

set_option maxHeartbeats 1000000 in
theorem phases17 (ao : Option Addr) (n cap : Nat) (l : List Tr) (w : World) (hI : Trs w ao l) (hn : l.length = n) (hm : (n : Int) ≤ 65536) :
    Calls Try.prog 17 #[.slice ao n cap] w fun e w' => ∃ v, e = .returned v ∧ w'.ownsRow w.heap.size 9 1 v (ph l (2 * n)).length (sc (ph l (2 * n))) ∧ Below w.heap.size w w' := by
  have C28 := hide (phases28 ao n cap l w hI hn hm)
  clear hI
  go_enter Try.func17, Try.ntmps17
  go_wp2_with fail
  refine (unhide C28).mono ?_
  rintro e w1 ⟨v, rfl, h1, h2⟩
  go_wp2_with fail
  go_ret
  exact ⟨_, rfl, h1, h2⟩
end Go.Proofs.Qxb6002694a

/-
  (*Decoder).reset (10), walked.
-/
import Derived.Test.Qxb6604427aDoorDec
namespace Go.Proofs.Qxb6604427aDoor
open Go.RowKit
set_option maxRecDepth 100000
attribute [local go_sem ↓] Go.wp_at_zero Go.wp_at_succ
attribute [local go_sem] setCells_drew
theorem info35 : (Tryd.prog.info? 35).map (·.size) = some 17 := by kernel_rfl

/-! A load and a store of a whole lineReader (17 cells), not opened cell by cell. -/
def rowHas (w : World) (b o n : Nat) : Prop := ∀ j, j < n → (w.cell? ⟨b, o + j, none⟩).isSome = true
def rowOf (w : World) (b o n : Nat) : List Value := (List.range n).map fun j => (w.cell? ⟨b, o + j, none⟩).getD undef
theorem rowOf_range {w : World} {b o n : Nat} (h : rowHas w b o n) : w.rangeAt b o (rowOf w b o n) := fun j v hv => by
  unfold rowOf at hv
  simp only [List.getElem?_map, Option.map_eq_some_iff, List.getElem?_eq_some_iff, List.length_range, List.getElem_range] at hv
  obtain ⟨i, ⟨hi, rfl⟩, rfl⟩ := hv
  obtain ⟨u, hu⟩ := Option.isSome_iff_exists.1 (h j hi)
  rw [hu]; rfl
def Ld35 (v : Value) : Sem Value := Instr.loadAt 35 v
theorem ld35_eq (v : Value) : Instr.loadAt 35 v = Ld35 v := rfl
theorem ld35_run (w : World) (b o : Nat) (h : rowHas w b o 17) : Sem.run Tryd.prog (Ld35 (.pointer (some ⟨b, o, none⟩))) w = .ok (.agg (rowOf w b o 17).toArray) w :=
  run_loadAt_mid w b o 35 _ _ (rowOf_range h) Tryd.underlying35 rfl (by rw [info35]; simp [rowOf])
def St35 (p v : Value) : Sem Unit := Instr.storeAt 35 p v
theorem st35_eq (p v : Value) : Instr.storeAt 35 p v = St35 p v := rfl
theorem st35_run (w : World) (b o : Nat) (cs : List Value) (h : w.there b o 17) (hl : cs.length = 17) (h1 : ∀ v ∈ cs, v.oneCell' = true) : Sem.run Tryd.prog (St35 (.pointer (some ⟨b, o, none⟩)) (.agg cs.toArray)) w = .ok () (w.setCells b o cs) :=
  run_storeAt_mid w b o 35 cs.toArray (by simpa [hl] using h) (by simp [info35, hl]) (all_oneCell_toArray h1)
theorem rowOf_setCells (w : World) (b b' o o' n : Nat) (cs : List Value) (h : b' ≠ b) : rowOf (w.setCells b o cs) b' o' n = rowOf w b' o' n := by
  unfold rowOf
  refine List.map_congr_left fun j _ => ?_
  rw [World.cell?_setCells_out b cs o w ⟨b', o' + j, none⟩ (fun e _ => absurd e h)]
theorem rowOf_setCell (w : World) (a : Addr) (v : Value) (b' o' n : Nat) (h : b' ≠ a.block) : rowOf (w.setCell a v) b' o' n = rowOf w b' o' n := by
  unfold rowOf
  refine List.map_congr_left fun j _ => ?_
  rw [World.cell?_setCell_other _ _ _ _ (fun e => h (by rw [e]))]
theorem rowHas_setCells (w : World) (b b' o o' n : Nat) (cs : List Value) (h : rowHas w b' o' n) : rowHas (w.setCells b o cs) b' o' n := fun j hj => World.isSome_setCells b cs o w _ (h j hj)
theorem rowHas_setCell (w : World) (b k : Nat) (v : Value) (b' o' n : Nat) (h : rowHas w b' o' n) : rowHas (w.setCell ⟨b, k, none⟩ v) b' o' n := fun j hj => World.isSome_setCells b [v] k w _ (h j hj)
theorem there_setCell {w : World} {b' o' n : Nat} (h : w.there b' o' n) (b o : Nat) (v : Value) : (w.setCell ⟨b, o, none⟩ v).there b' o' n := World.there_setCells h b o [v]
theorem rowOf_drew (w : World) (b o n : Nat) : rowOf w.drew b o n = rowOf w b o n := rfl
theorem rowHas_drew (w : World) (b o n : Nat) : rowHas w.drew b o n ↔ rowHas w b o n := Iff.rfl
/-- What the loads of the region with three stores read, and that the line reader's place is there. -/
def S4 (b bl bo : Nat) (cs : List Value) (len : Bool) (mx : Int) (W : World) : Prop := rowHas W bl 0 17 ∧ rowOf W bl 0 17 = cs ∧ W.there b 0 17 ∧ W.cell? ⟨bo, 1, none⟩ = some (.bool len) ∧ W.cell? ⟨bo, 2, none⟩ = some (.int .i64 mx)
theorem S4_drew {b bl bo : Nat} {cs : List Value} {len : Bool} {mx : Int} {W : World} (h : S4 b bl bo cs len mx W) : S4 b bl bo cs len mx W.drew := ⟨h.1, h.2.1, by simpa using h.2.2.1, h.2.2.2.1, h.2.2.2.2⟩
theorem S4_setCells {b bl bo : Nat} (h1 : bl ≠ b) (h2 : bo ≠ b) {cs : List Value} {len : Bool} {mx : Int} (vs : List Value) (k : Nat) {W : World} (h : S4 b bl bo cs len mx W) : S4 b bl bo cs len mx (W.setCells b k vs) :=
  ⟨rowHas_setCells _ _ _ _ _ _ _ h.1, by rw [rowOf_setCells _ _ _ _ _ _ _ h1]; exact h.2.1, World.there_setCells h.2.2.1 _ _ _, by rw [World.cell?_setCells_out b vs k W _ (fun e _ => absurd e h2)]; exact h.2.2.2.1, by rw [World.cell?_setCells_out b vs k W _ (fun e _ => absurd e h2)]; exact h.2.2.2.2⟩
theorem S4_setCell {b bl bo : Nat} (h1 : bl ≠ b) (h2 : bo ≠ b) {cs : List Value} {len : Bool} {mx : Int} (v : Value) (k : Nat) {W : World} (h : S4 b bl bo cs len mx W) : S4 b bl bo cs len mx (W.setCell ⟨b, k, none⟩ v) := S4_setCells h1 h2 [v] k h
attribute [local go_sem ↓] ld35_eq st35_eq
attribute [local go_sem] ld35_run rowOf_drew rowHas_drew

theorem perOf_wrap (eff : Nat) (h1 : (1 : Int) < (eff : Int)) (h2 : (eff : Int) ≤ 4294967295) : IntKind.u64.wrap (18446744073709551615 / (eff : Int) + 1) = ((perOf eff : Nat) : Int) := by
  have hp : perOf eff = 18446744073709551615 / eff + 1 := by unfold perOf; rw [if_pos (by omega)]
  have hl := perOf_lt eff
  have e : (18446744073709551615 / (eff : Int) + 1) = ((perOf eff : Nat) : Int) := by rw [hp]; simp
  rw [e, IntKind.wrap_u64]
  omega
theorem perOf_zero (eff : Nat) (h : ¬ ((1 : Int) < (eff : Int) ∧ (eff : Int) ≤ 4294967295)) : perOf eff = 0 := by unfold perOf; rw [if_neg (by omega)]

set_option maxHeartbeats 4000000 in
theorem reset_any (b : Nat) (cs : List Value) (ind : Int) (eff : Nat) (len : Bool) (mx : Int) (w0 w : World) (hI : Inv w0 b (.int .i64 0) (.int .u64 0) w)
    (hcs : cs.length = 17) (hcs12 : cs[12]? = some (.slice none 0 0)) (hone : ∀ v ∈ cs, v.oneCell' = true) (he : (if ind ≤ 0 then 2 else ind) = (eff : Int)) (hel : eff ≤ 9223372036854775807) :
    Calls Tryd.prog 10 #[.pointer (some ⟨b, 0, none⟩), .agg cs.toArray, .agg #[.int .i64 ind, .bool len, .int .i64 mx]] w fun e w' =>
      e = .returned (.tuple #[]) ∧ Inv w0 b (.int .i64 eff) (.int .u64 (perOf eff)) w' := by
  have hb : b < w.heap.size := World.block_lt_of_cell? w _ hI.c17
  have he0 : 0 < eff := by split at he <;> omega
  have hu := Tryd.underlying35
  have hi : (Tryd.prog.info? 35).map (·.size) = some cs.length := by rw [hcs]; exact info35
  have HE : Hid ((if ind ≤ 0 then 2 else ind) = (eff : Int)) := he
  clear he
  have HC : Hid (cs[12]? = some (.slice none 0 0)) := hcs12
  clear hcs12
  go_enter Tryd.func10, Tryd.ntmps10
  go_upto_if 10 with fail
  go_cut [6] (fun s6 wc => s6 = .int .i64 eff ∧ Inv w0 b (.int .i64 0) (.int .u64 0) wc ∧ rowHas wc w.heap.size 0 17 ∧ rowOf wc w.heap.size 0 17 = cs ∧ wc.cell? ⟨w.heap.size + 1, 1, none⟩ = some (.bool len) ∧ wc.cell? ⟨w.heap.size + 1, 2, none⟩ = some (.int .i64 mx))
  case first =>
    by_cases hle : ind ≤ 0
    all_goals
      go_wp2
      go_meet
      case rel =>
        refine ⟨?_, (hI.alloc _).alloc _, ?_, ?_, ?_, ?_⟩
        · have h := HE.out
          first | (rw [if_pos hle] at h; simp [← h]; done) | (rw [if_neg (Int.not_le.2 hle)] at h; simp [← h]; done)
        · intro j hj
          rw [World.cell?_alloc_past _ _ _ (by simp), World.cell?_alloc_at _ _ _ _ rfl]
          simp; omega
        · unfold rowOf
          refine List.ext_getElem (by simp [hcs]) fun j h1 h2 => ?_
          simp only [List.getElem_map, List.getElem_range, Nat.zero_add]
          rw [World.cell?_alloc_past _ _ _ (by simp), World.cell?_alloc_at _ _ _ _ rfl]
          simp [h2]
        · simp [go_sem]
        · simp [go_sem]
  case rest =>
  obtain ⟨rfl, hI2, hr1, hr2, ho1, ho2⟩ := hcut
  clear hI HE
  obtain ⟨⟨v19, c19⟩, f19⟩ := hI2.get 19 (by omega)
  obtain ⟨⟨v20, c20⟩, f20⟩ := hI2.get 20 (by omega)
  have th : wc.there b 0 17 := fun j hj => hI2.there j (by omega)
  have g19 : (wc.setCells b 0 cs).cell? ⟨b, 19, none⟩ = some v19 := by rw [World.cell?_setCells_out b cs 0 wc ⟨b, 19, none⟩ (fun _ _ => by right; simp [hcs])]; exact c19
  have g20 : (wc.setCells b 0 cs).cell? ⟨b, 20, none⟩ = some v20 := by rw [World.cell?_setCells_out b cs 0 wc ⟨b, 20, none⟩ (fun _ _ => by right; simp [hcs])]; exact c20
  have k19 : (wc.setCells b 0 cs).frozen? ⟨b, 19, none⟩ = false := by rw [World.frozen?_setCells]; exact f19
  have k20 : (wc.setCells b 0 cs).frozen? ⟨b, 20, none⟩ = false := by rw [World.frozen?_setCells]; exact f20
  have hbn : w.heap.size ≠ b := by omega
  have hbn1 : w.heap.size + 1 ≠ b := by omega
  have hst : Sem.run Tryd.prog (St35 (.pointer (some ⟨b, 0, none⟩)) (.agg cs.toArray)) wc.drew = .ok () (wc.setCells b 0 cs).drew := by
    rw [st35_run wc.drew b 0 cs (by simpa using th) hcs hone, setCells_drew]
  have hS : S4 b w.heap.size (w.heap.size + 1) cs len mx wc := ⟨hr1, hr2, th, ho1, ho2⟩
  go_upto_region 4 with fail
  go_cut [] (fun wd => Inv w0 b (.int .i64 0) (.int .u64 0) wd)
  case first =>
    go_region_held3 (fun w' => rowHas w' w.heap.size 0 17 ∧ rowOf w' w.heap.size 0 17 = cs ∧ w'.there b 0 17 ∧ w'.cell? ⟨w.heap.size + 1, 1, none⟩ = some (.bool len) ∧ w'.cell? ⟨w.heap.size + 1, 2, none⟩ = some (.int .i64 mx))
      ((show S4 b w.heap.size (w.heap.size + 1) cs len mx _; repeat (with_reducible first | exact hS | apply S4_drew | apply S4_setCell hbn hbn1 | apply S4_setCells hbn hbn1))) (fail)
    go_wp2
    go_meet
    case rel =>
      refine Inv.drew ?_
      refine Inv.setCell ?_ 20 _ (by omega)
      refine Inv.setCell ?_ 19 _ (by omega)
      exact hI2.setLines cs hcs HC.out
  case rest =>
  clear hI2 hr1 hr2 ho1 ho2 c19 f19 c20 f20 th g19 g20 k19 k20 hst hS hi hu hone hcs
  have hI3 := hcut
  clear hcut
  have c17 := hI3.c17
  have c18 := hI3.c18
  have f17 := (hI3.get 17 (by omega)).2
  have f18 := (hI3.get 18 (by omega)).2
  have hne : (((eff : Int)) != 0) = true := by rw [bne_iff_ne]; omega
  go_upto_if 31 with fail
  go_cut [] (fun wd => Inv w0 b (.int .i64 eff) (.int .u64 (perOf eff)) wd)
  case first =>
    by_cases h1 : (1 : Int) < (eff : Int)
    · by_cases h2 : (eff : Int) ≤ 4294967295
      · go_wp2
        go_meet
        case rel =>
          have hI4 := (((hI3.set17 (.int .i64 eff)).set18 (.int .u64 0)).set18 (.int .u64 (perOf eff)))
          rw [perOf_wrap eff h1 h2]
          exact hI4
      · go_wp2
        go_meet
        case rel =>
          have hI4 := (hI3.set17 (.int .i64 eff)).set18 (.int .u64 0)
          rw [perOf_zero eff (by omega)]
          exact hI4
    · go_wp2
      go_meet
      case rel =>
        have hI4 := (hI3.set17 (.int .i64 eff)).set18 (.int .u64 0)
        rw [perOf_zero eff (by omega)]
        exact hI4
  case rest =>
  clear hI3 c17 c18 f17 f18 hne
  have hI4 := hcut
  clear hcut
  go_upto_region 9 with fail
  go_cut [] (fun wd => Inv w0 b (.int .i64 eff) (.int .u64 (perOf eff)) wd)
  case first =>
    obtain ⟨⟨v21, c21⟩, f21⟩ := hI4.get 21 (by omega)
    obtain ⟨⟨v27, c27⟩, f27⟩ := hI4.get 27 (by omega)
    obtain ⟨⟨v28, c28⟩, f28⟩ := hI4.get 28 (by omega)
    obtain ⟨⟨v29, c29⟩, f29⟩ := hI4.get 29 (by omega)
    go_wp2
    go_meet
    case rel =>
      exact (((hI4.setCell 21 _ (by omega)).setCell 27 _ (by omega)).setCell 28 _ (by omega)).setCell 29 _ (by omega)
  case rest =>
  clear hI4
  have hI5 := hcut
  clear hcut
  go_upto_region 10 with fail
  go_cut [] (fun wd => Inv w0 b (.int .i64 eff) (.int .u64 (perOf eff)) wd)
  case first =>
    obtain ⟨⟨v22, c22⟩, f22⟩ := hI5.get 22 (by omega)
    obtain ⟨⟨v23, c23⟩, f23⟩ := hI5.get 23 (by omega)
    obtain ⟨⟨v24, c24⟩, f24⟩ := hI5.get 24 (by omega)
    obtain ⟨⟨v25, c25⟩, f25⟩ := hI5.get 25 (by omega)
    obtain ⟨⟨v26, c26⟩, f26⟩ := hI5.get 26 (by omega)
    obtain ⟨⟨v71, c71⟩, f71⟩ := hI5.get 71 (by omega)
    obtain ⟨⟨v72, c72⟩, f72⟩ := hI5.get 72 (by omega)
    obtain ⟨⟨v73, c73⟩, f73⟩ := hI5.get 73 (by omega)
    obtain ⟨⟨v74, c74⟩, f74⟩ := hI5.get 74 (by omega)
    obtain ⟨⟨v75, c75⟩, f75⟩ := hI5.get 75 (by omega)
    obtain ⟨⟨v38, c38⟩, f38⟩ := hI5.get 38 (by omega)
    obtain ⟨⟨v39, c39⟩, f39⟩ := hI5.get 39 (by omega)
    obtain ⟨⟨v40, c40⟩, f40⟩ := hI5.get 40 (by omega)
    obtain ⟨⟨v41, c41⟩, f41⟩ := hI5.get 41 (by omega)
    obtain ⟨⟨v42, c42⟩, f42⟩ := hI5.get 42 (by omega)
    obtain ⟨⟨v43, c43⟩, f43⟩ := hI5.get 43 (by omega)
    obtain ⟨⟨v44, c44⟩, f44⟩ := hI5.get 44 (by omega)
    obtain ⟨⟨v45, c45⟩, f45⟩ := hI5.get 45 (by omega)
    obtain ⟨⟨v46, c46⟩, f46⟩ := hI5.get 46 (by omega)
    obtain ⟨⟨v47, c47⟩, f47⟩ := hI5.get 47 (by omega)
    obtain ⟨⟨v48, c48⟩, f48⟩ := hI5.get 48 (by omega)
    go_wp2
    go_meet
    case rel =>
      repeat (first | (with_reducible exact hI5) | refine Inv.setCell ?_ _ _ (by omega))
  case rest =>
  clear hI5
  have hI6 := hcut
  clear hcut
  go_upto_region 11 with fail
  go_cut [] (fun wd => Inv w0 b (.int .i64 eff) (.int .u64 (perOf eff)) wd)
  case first =>
    have c30 := hI6.c30
    have c76 := hI6.c76
    have c77 := hI6.c77
    have f30 := (hI6.get 30 (by omega)).2
    have f76 := (hI6.get 76 (by omega)).2
    have f77 := (hI6.get 77 (by omega)).2
    go_region_held3 (fun w' => w'.cell? ⟨b, 30, none⟩ = some (.slice none 0 0) ∧ w'.cell? ⟨b, 76, none⟩ = some (.slice none 0 0) ∧ w'.cell? ⟨b, 77, none⟩ = some (.slice none 0 0)) (simp [go_sem, c30, c76, c77]) (fail)
    go_wp2
    go_meet
    case rel =>
      exact (((hI6.setNil 30 (by omega)).setNil 76 (by omega)).setNil 77 (by omega)).drew
  case rest =>
  clear hI6
  have hI7 := hcut
  clear hcut
  obtain ⟨⟨v32, c32⟩, f32⟩ := hI7.get 32 (by omega)
  obtain ⟨⟨v34, c34⟩, f34⟩ := hI7.get 34 (by omega)
  have c35 := hI7.c35
  have f35 := (hI7.get 35 (by omega)).2
  go_wp2_with fail
  refine (keys_any b 31 wc v32 v34 c35 f35 c32 f32 c34 f34).mono ?_
  rintro e w8 ⟨rfl, hw8⟩
  have hI8 : Inv w0 b (.int .i64 eff) (.int .u64 (perOf eff)) w8 := by
    rw [hw8]
    exact (((hI7.setNil 35 (by omega)).setCell 32 (.int .i64 0) (by omega)).setCell 34 (.int .i64 0) (by omega)).drew
  clear hw8 hI7 c32 c34 c35 f32 f34 f35
  obtain ⟨⟨v79, c79⟩, f79⟩ := hI8.get 79 (by omega)
  obtain ⟨⟨v80, c80⟩, f80⟩ := hI8.get 80 (by omega)
  go_wp2_with fail
  go_end0
  exact ⟨rfl, (hI8.setCell 79 _ (by omega)).setCell 80 _ (by omega)⟩
end Go.Proofs.Qxb6604427aDoor

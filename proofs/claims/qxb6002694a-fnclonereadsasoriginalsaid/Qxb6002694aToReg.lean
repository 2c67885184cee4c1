/-
  toRegistry (10).
-/
import Derived.Test.Qxb6002694aClBase
namespace Go.Proofs.Qxb6002694a
open Go Go.RowKit
set_option maxRecDepth 100000
attribute [local go_sem ↓] Go.wp_at_zero Go.wp_at_succ

set_option maxHeartbeats 4000000 in
theorem toReg10 (nm kd hs pa : ByteArray) (gen : Int) (phs : ByteArray) (tr : Int) (ad : ByteArray) (cl : Bool) (wp xp lp : Option Addr) (ra : Option Addr) (rn rc : Nat) (wo : Option HoldD) (rd : List HoldD) (xo : Option RunD) (lo : Option EndD) (w : World)
    (hw : HoldP w (.pointer wp) wo) (hr : Rds w ra rd) (hrn : rd.length = rn) (hrm : (rn : Int) ≤ 65536) (hnil : ra = none → rn = 0 ∧ rc = 0) (hx : RunP w (.pointer xp) xo) (hl : EndP w (.pointer lp) lo) :
    Calls Try.prog 10 #[.agg #[.string nm, .string kd, .string hs, .string pa, .int .u64 gen, .string phs, .int .u64 tr, .string ad, .bool cl, .pointer wp, .slice ra rn rc, .pointer xp, .pointer lp]] w fun e w' =>
      ∃ wp' ra' xp' lp', e = .returned (.agg #[.string nm, .string kd, .string hs, .string pa, .int .u64 gen, .string phs, .int .u64 tr, .string ad, .bool cl, .pointer wp', .slice ra' rn rn, .pointer xp', .pointer lp']) ∧ HoldP w' (.pointer wp') wo ∧ Rds w' ra' rd ∧ (ra' = none → rn = 0) ∧ RunP w' (.pointer xp') xo ∧ EndP w' (.pointer lp') lo ∧ Below w.heap.size w w' := by
  have HW := hide hw
  have HR := hide hr
  have HX := hide hx
  have HL := hide hl
  have HN := hide hnil
  clear hw hr hx hl hnil
  go_enter Try.func10, Try.ntmps10
  go_upto_region 2 with fail
  have T0 : TR w (((w.alloc (.cells (resCells nm kd hs pa gen phs tr ad cl (.pointer wp) (.slice ra rn rc) (.pointer xp) (.pointer lp)) 28)).alloc (.cells (resCells ⟨#[]⟩ ⟨#[]⟩ ⟨#[]⟩ ⟨#[]⟩ 0 ⟨#[]⟩ 0 ⟨#[]⟩ false (.pointer none) (.slice none 0 0) (.pointer none) (.pointer none)) 35)).alloc (.cells (resCells nm kd hs pa gen phs tr ad cl (.pointer none) (.slice none 0 0) (.pointer none) (.pointer none)) 35))
      (resCells nm kd hs pa gen phs tr ad cl (.pointer wp) (.slice ra rn rc) (.pointer xp) (.pointer lp)) (resCells ⟨#[]⟩ ⟨#[]⟩ ⟨#[]⟩ ⟨#[]⟩ 0 ⟨#[]⟩ 0 ⟨#[]⟩ false (.pointer none) (.slice none 0 0) (.pointer none) (.pointer none)) nm kd hs pa gen phs tr ad cl (.pointer none) (.slice none 0 0) (.pointer none) (.pointer none) := by
    refine ⟨?_, ?_, ?_, (((Below.refl w.heap.size w).alloc (Nat.le_refl _) _).alloc (by simp) _).alloc (by simp; omega) _⟩
    · rw [Below.heap_alloc _ _ _ (by simp; omega), Below.heap_alloc _ _ _ (by simp)]; exact (MapKept.heap_alloc w _).1
    · rw [Below.heap_alloc _ _ _ (by simp)]; simpa using (MapKept.heap_alloc (w.alloc (.cells (resCells nm kd hs pa gen phs tr ad cl (.pointer wp) (.slice ra rn rc) (.pointer xp) (.pointer lp)) 28)) _).1
    · simpa using (MapKept.heap_alloc ((w.alloc (.cells (resCells nm kd hs pa gen phs tr ad cl (.pointer wp) (.slice ra rn rc) (.pointer xp) (.pointer lp)) 28)).alloc (.cells (resCells ⟨#[]⟩ ⟨#[]⟩ ⟨#[]⟩ ⟨#[]⟩ 0 ⟨#[]⟩ 0 ⟨#[]⟩ false (.pointer none) (.slice none 0 0) (.pointer none) (.pointer none)) 35)) _).1
  have HT0 := hide T0
  clear T0
  unfold resCells at HT0
  generalize (((w.alloc _).alloc _).alloc _ : World) = w1 at *
  have c9 := cell_of_block HT0.out.bx 9 _ rfl
  go_upto_if 30 with fail
  go_cut [] (fun wd => ∃ wp', Hid (TR w wd #[.string nm, .string kd, .string hs, .string pa, .int .u64 gen, .string phs, .int .u64 tr, .string ad, .bool cl, .pointer wp, .slice ra rn rc, .pointer xp, .pointer lp] #[.string ⟨#[]⟩, .string ⟨#[]⟩, .string ⟨#[]⟩, .string ⟨#[]⟩, .int .u64 0, .string ⟨#[]⟩, .int .u64 0, .string ⟨#[]⟩, .bool false, .pointer none, .slice none 0 0, .pointer none, .pointer none] nm kd hs pa gen phs tr ad cl (.pointer wp') (.slice none 0 0) (.pointer none) (.pointer none)) ∧ Hid (HoldP wd (.pointer wp') wo) ∧ Hid (Far (w.heap.size + 1 + 1) wp'))
  case first =>
    cases wo with
    | none =>
      have hwp : wp = none := by have h := HW.out; simpa [HoldP] using h
      subst hwp
      go_wp2_with fail
      go_meet
      case rel => exact ⟨none, HT0, rfl, fun _ h => by cases h⟩
    | some h =>
      obtain ⟨b, o, hp, hA⟩ := HW.out
      simp only [Value.pointer.injEq] at hp
      subst hp
      obtain ⟨hc, he, ht⟩ := h
      have hA1 := hA.below HT0.out.b (Nat.le_refl _)
      obtain ⟨a0, a1, a2⟩ := hA1
      simp only at a0 a1 a2
      clear hA
      go_wp2_with fail
      refine (hold25 hc he ht w1).mono ?_
      rintro e w2 ⟨rfl, hB2⟩
      have T2 := HT0.out.below hB2
      have T3 := T2.below ((Below.refl _ _).alloc (Nat.le_refl _) (.cells #[.string hc, .int .u64 he, .int .u64 ht] 42))
      have d9 := cell_of_block T3.ot 9 _ rfl
      have f9 := frozen_of_block T3.ot 9
      have HT2 := hide T2
      have HT3 := hide T3
      clear T2 T3 a0 a1 a2
      go_wp2_with fail
      go_meet
      case rel =>
        have h1 : w.heap.size + 1 + 1 < w2.heap.size := (Array.getElem?_eq_some_iff.1 HT2.out.ot).1
        refine ⟨some ⟨w2.heap.size, 0, none⟩, HT3.out.writer _, ⟨w2.heap.size, 0, rfl, new_cell h1 0 _ rfl, new_cell h1 1 _ rfl, new_cell h1 2 _ rfl⟩, fun a e => ?_⟩
        cases e
        exact h1
  case rest =>
  obtain ⟨wp', HT1, HW1, HF1⟩ := hcut
  clear HT0 c9
  clear HW
  have c10 := cell_of_block HT1.out.bx 10 _ rfl
  have hnil := fun (W : World) (a : Option Addr) (n c n' c' : Nat) => Lib.run_eql_slice_nil (P := Try.prog) W _ _ a n c n' c' Try.underlying24
  go_upto_if 39 with fail
  go_cut [] (fun wd => ∃ ra', Hid (TR w wd #[.string nm, .string kd, .string hs, .string pa, .int .u64 gen, .string phs, .int .u64 tr, .string ad, .bool cl, .pointer wp, .slice ra rn rc, .pointer xp, .pointer lp] #[.string ⟨#[]⟩, .string ⟨#[]⟩, .string ⟨#[]⟩, .string ⟨#[]⟩, .int .u64 0, .string ⟨#[]⟩, .int .u64 0, .string ⟨#[]⟩, .bool false, .pointer none, .slice none 0 0, .pointer none, .pointer none] nm kd hs pa gen phs tr ad cl (.pointer wp') (.slice ra' rn rn) (.pointer none) (.pointer none)) ∧ Hid (HoldP wd (.pointer wp') wo) ∧ Hid (Rds wd ra' rd) ∧ Hid (Far (w.heap.size + 1 + 1) ra') ∧ Hid (ra' = none → rn = 0))
  case first =>
    cases ra with
    | none =>
      obtain ⟨rfl, rfl⟩ := HN.out rfl
      obtain rfl := List.eq_nil_of_length_eq_zero hrn
      go_wp2_with fail
      go_meet
      case rel => exact ⟨none, HT1, HW1, Or.inl rfl, (fun _ h => by cases h), fun _ => by trivial⟩
    | some ra =>
      obtain ⟨i42, hi42, hz42, hs42, hb42⟩ := info_parts Try.info42
      have hsz : w.heap.size + 1 + 1 < wc.heap.size := (Array.getElem?_eq_some_iff.1 HT1.out.ot).1
      go_wp2_with (at_make; go_must (refine wpList_make_full _ rfl _ _ 31 rfl (w.heap.size + 1 + 1 + 1) 42 i42 (.agg #[.string ⟨#[]⟩, .int .u64 0, .int .u64 0]) 3 Try.underlying31 hi42 hz42 hs42 .i64 .i64 _ _ rn rfl rfl rfl rfl (by rw [hb42]; omega) (by unfold maxLen; omega) (by omega) ?_; intro w2 hown2 hg2))
      have hB2 : Below wc.heap.size wc w2 := (Below.refl _ _).grown hg2 (Nat.le_refl _) (fun k hk => by cases hk)
      have HT2 := hide (HT1.out.below hB2)
      have HW2 := hide (HW1.out.keep (w' := w2) (fun a ha => hB2.block _ (HW1.out.lt a ha)))
      have HLT := hide HW1.out.lt
      have HO2 := hide hown2
      clear hown2 hg2 hB2 c10
      go_loopw [6] (fun i wr => ∃ (j : Nat) (X : List Value), j ≤ rn ∧ i = .int .i64 j ∧ Hid (TR w wr #[.string nm, .string kd, .string hs, .string pa, .int .u64 gen, .string phs, .int .u64 tr, .string ad, .bool cl, .pointer wp, .slice (some ra) rn rc, .pointer xp, .pointer lp] #[.string ⟨#[]⟩, .string ⟨#[]⟩, .string ⟨#[]⟩, .string ⟨#[]⟩, .int .u64 0, .string ⟨#[]⟩, .int .u64 0, .string ⟨#[]⟩, .bool false, .pointer none, .slice none 0 0, .pointer none, .pointer none] nm kd hs pa gen phs tr ad cl (.pointer wp') (.slice none 0 0) (.pointer none) (.pointer none)) ∧ Hid (wr.ownsRow (w.heap.size + 1 + 1 + 1) 42 3 (.slice (some ⟨wc.heap.size, 0, none⟩) rn rn) rn X) ∧ Hid (∀ q (h : q < rd.length), q < j → X[q * 3]? = some (.string rd[q].1) ∧ X[q * 3 + 1]? = some (.int .u64 rd[q].2.1) ∧ X[q * 3 + 2]? = some (.int .u64 rd[q].2.2)) ∧ Hid (HoldP wr (.pointer wp') wo)) (fun i _ => rn - (intOf i).toNat)
      case atStart => exact ⟨0, _, Nat.zero_le _, rfl, HT2, HO2, (fun q _ hq => absurd hq (by omega)), HW2⟩
      case round =>
        obtain ⟨j, X, hj, rfl, HTr, HOr, HXr, HWr⟩ := hrel
        clear HT2 HO2 HW2
        have c10 := cell_of_block HTr.out.bx 10 _ rfl
        by_cases hlt : (j : Int) < (rn : Int)
        · have hj' : j < rd.length := by omega
          obtain ⟨b, o, hra, hI⟩ : ∃ b o, ra = ⟨b, o, none⟩ ∧ ∀ j (h : j < rd.length), HoldA w b (o + j * 3) rd[j] := by
            rcases HR.out with h0 | ⟨b, o, e, h⟩
            · subst h0; simp at hj'
            · exact ⟨b, o, Option.some.inj e, h⟩
          subst hra
          obtain ⟨a0, a1, a2⟩ := (hI j hj').below HTr.out.b (Nat.le_refl _)
          obtain ⟨c, e, t, hcet⟩ : ∃ c e t, rd[j] = (c, e, t) := ⟨_, _, _, rfl⟩
          rw [hcet] at a0 a1 a2
          simp only at a0 a1 a2
          have hXl : X.length = rn * 3 := HOr.out.1
          have HXN := hide (row_more (by omega) HXr.out c e t hj' hcet)
          clear hI hcet
          go_wp2_with fail
          refine (hold25 c e t wr).mono ?_
          rintro ee w3 ⟨rfl, hB3⟩
          have HT3 := hide (HTr.out.below hB3)
          have HW3 := hide (HWr.out.keep (w' := w3) (fun a ha => hB3.block _ (HWr.out.lt a ha)))
          have hO3 : w3.ownsRow (w.heap.size + 1 + 1 + 1) 42 3 (.slice (some ⟨wc.heap.size, 0, none⟩) rn rn) rn X := own_keep HOr.out (fun k hk => hB3.block _ (HOr.out.lt k hk).2) (Nat.le_refl _)
          have d0 := hO3.cellAt (j * 3) (by omega)
          have d1 := hO3.cellAt (j * 3 + 1) (by omega)
          have d2 := hO3.cellAt (j * 3 + 2) (by omega)
          rw [List.getElem?_eq_getElem (by omega)] at d0 d1 d2
          have f0 := hO3.frozenAt (j * 3)
          have f1 := hO3.frozenAt (j * 3 + 1)
          have f2 := hO3.frozenAt (j * 3 + 2)
          generalize X[j * 3] = x0 at d0
          generalize X[j * 3 + 1] = x1 at d1
          generalize X[j * 3 + 2] = x2 at d2
          have HO3 := hide hO3
          clear hO3 a0 a1 a2 hB3 HTr HOr HXr HWr hXl
          go_wp2_with fail
          go_roundw
          case rel => exact ⟨j + 1, _, by omega, by go_num, ((HT3.out.other _ (j * 3) (.string c) hsz).other _ (j * 3 + 1) (.int .u64 e) hsz).other _ (j * 3 + 2) (.int .u64 t) hsz, (((HO3.out.stored (j * 3) (.string c)).1.stored (j * 3 + 1) (.int .u64 e)).1.stored (j * 3 + 2) (.int .u64 t)).1, HXN.out,
            HW3.out.keep (fun a ha => (Below.heap_setCell _ _ _ _ (by have := HLT.out a ha; simp; omega)).trans ((Below.heap_setCell _ _ _ _ (by have := HLT.out a ha; simp; omega)).trans (Below.heap_setCell _ _ _ _ (by have := HLT.out a ha; simp; omega))))⟩
          case measure => simp [intOf]; omega
        · have hjn : j = rn := by omega
          subst hjn
          have d10 := cell_of_block HTr.out.ot 10 _ rfl
          have f10 := frozen_of_block HTr.out.ot 10
          go_wp2_with fail
          go_meet
          case rel =>
            refine ⟨some ⟨wc.heap.size, 0, none⟩, HTr.out.readers _, HWr.out.keep (fun a ha => Below.heap_setCell _ _ _ _ (by have := HF1.out a ha; simp; omega)), Or.inr ⟨_, 0, rfl, fun q hq => ?_⟩, (fun a e => by cases e; exact hsz), (fun h => by cases h)⟩
            obtain ⟨e0, e1, e2⟩ := HXr.out q hq (by omega)
            have hne : ∀ i, (⟨w.heap.size + 1 + 1, 10, none⟩ : Addr) ≠ ⟨wc.heap.size, i, none⟩ := fun i e => by have := congrArg Addr.block e; simp at this; omega
            rw [Nat.zero_add]
            exact ⟨(World.cell?_setCell_other _ _ _ _ (hne _)).trans ((HOr.out.cellAt _ (by omega)).trans e0), (World.cell?_setCell_other _ _ _ _ (hne _)).trans ((HOr.out.cellAt _ (by omega)).trans e1), (World.cell?_setCell_other _ _ _ _ (hne _)).trans ((HOr.out.cellAt _ (by omega)).trans e2)⟩
  case rest =>
  obtain ⟨ra', HT2, HW2, HR2, HFR, HRN⟩ := hcut
  clear HT1 HW1 c10 HR HN hnil
  have c11 := cell_of_block HT2.out.bx 11 _ rfl
  go_upto_if 64 with fail
  go_cut [] (fun wd => ∃ xp', Hid (TR w wd #[.string nm, .string kd, .string hs, .string pa, .int .u64 gen, .string phs, .int .u64 tr, .string ad, .bool cl, .pointer wp, .slice ra rn rc, .pointer xp, .pointer lp] #[.string ⟨#[]⟩, .string ⟨#[]⟩, .string ⟨#[]⟩, .string ⟨#[]⟩, .int .u64 0, .string ⟨#[]⟩, .int .u64 0, .string ⟨#[]⟩, .bool false, .pointer none, .slice none 0 0, .pointer none, .pointer none] nm kd hs pa gen phs tr ad cl (.pointer wp') (.slice ra' rn rn) (.pointer xp') (.pointer none)) ∧ Hid (HoldP wd (.pointer wp') wo) ∧ Hid (Rds wd ra' rd) ∧ Hid (RunP wd (.pointer xp') xo) ∧ Hid (Far (w.heap.size + 1 + 1) xp'))
  case first =>
    cases xo with
    | none =>
      have hxp : xp = none := by have h := HX.out; simpa [RunP] using h
      subst hxp
      go_wp2_with fail
      go_meet
      case rel => exact ⟨none, HT2, HW2, HR2, rfl, fun _ h => by cases h⟩
    | some h =>
      obtain ⟨b, o, hp, a0, a1⟩ := HX.out
      simp only [Value.pointer.injEq] at hp
      subst hp
      obtain ⟨hc, he⟩ := h
      have e0 := cell_below HT2.out.b (Nat.le_refl _) a0
      have e1 := cell_below HT2.out.b (Nat.le_refl _) a1
      simp only at e0 e1
      clear a0 a1
      go_wp2_with fail
      go_region_held3 (fun w' => w'.cell? ⟨w.heap.size, 11, none⟩ = some (.pointer (some ⟨b, o, none⟩)) ∧ w'.cell? ⟨b, o, none⟩ = some (.string hc) ∧ w'.cell? ⟨b, o + 1, none⟩ = some (.int .u64 he)) (first | exact ⟨c11, e0, e1⟩ | exact ⟨cell_alloc c11 _, cell_alloc e0 _, cell_alloc e1 _⟩) (fail)
      have hszc : w.heap.size + 1 + 1 < wc.heap.size := (Array.getElem?_eq_some_iff.1 HT2.out.ot).1
      have hBA : Below wc.heap.size wc (wc.alloc (.cells #[.string hc, .int .u64 he] 44)).drew := ((Below.refl _ _).alloc (Nat.le_refl _) _).drew
      have HTA := hide (HT2.out.below hBA)
      have HWA := hide (HW2.out.below hBA (Nat.le_refl _))
      have HRA := hide (HR2.out.below hBA (Nat.le_refl _))
      have HXA : Hid (RunP (wc.alloc (.cells #[.string hc, .int .u64 he] 44)).drew (.pointer (some ⟨wc.heap.size, 0, none⟩)) (some (hc, he))) :=
        ⟨wc.heap.size, 0, rfl, (World.cell?_alloc_at _ _ _ _ rfl).trans rfl, (World.cell?_alloc_at _ _ _ _ rfl).trans rfl⟩
      generalize (wc.alloc (.cells #[.string hc, .int .u64 he] 44)).drew = wA at *
      have d11 := cell_of_block HTA.out.ot 11 _ rfl
      have f11 := frozen_of_block HTA.out.ot 11
      clear e0 e1 c11 hBA
      go_wp2_with fail
      go_meet
      case rel =>
        refine ⟨some ⟨wc.heap.size, 0, none⟩, HTA.out.running _, HWA.out.keep (fun a ha => Below.heap_setCell _ _ _ _ (by have := HF1.out a ha; simp; omega)), HRA.out.keep (fun a ha => Below.heap_setCell _ _ _ _ (by have := HFR.out a ha; simp; omega)), HXA.out.keep (fun a ha => Below.heap_setCell _ _ _ _ (by cases ha; simp; omega)), fun a e => ?_⟩
        cases e
        exact hszc
  case rest =>
  obtain ⟨xp', HT3, HW3, HR3, HX3, HFX⟩ := hcut
  clear HT2 HW2 HR2 c11 HX
  have c12 := cell_of_block HT3.out.bx 12 _ rfl
  go_upto_if 79 with fail
  go_cut [] (fun wd => ∃ lp', Hid (TR w wd #[.string nm, .string kd, .string hs, .string pa, .int .u64 gen, .string phs, .int .u64 tr, .string ad, .bool cl, .pointer wp, .slice ra rn rc, .pointer xp, .pointer lp] #[.string ⟨#[]⟩, .string ⟨#[]⟩, .string ⟨#[]⟩, .string ⟨#[]⟩, .int .u64 0, .string ⟨#[]⟩, .int .u64 0, .string ⟨#[]⟩, .bool false, .pointer none, .slice none 0 0, .pointer none, .pointer none] nm kd hs pa gen phs tr ad cl (.pointer wp') (.slice ra' rn rn) (.pointer xp') (.pointer lp')) ∧ Hid (HoldP wd (.pointer wp') wo) ∧ Hid (Rds wd ra' rd) ∧ Hid (RunP wd (.pointer xp') xo) ∧ Hid (EndP wd (.pointer lp') lo) ∧ Hid (Far (w.heap.size + 1 + 1) lp'))
  case first =>
    cases lo with
    | none =>
      have hlp : lp = none := by have h := HL.out; simpa [EndP] using h
      subst hlp
      go_wp2_with fail
      go_meet
      case rel => exact ⟨none, HT3, HW3, HR3, HX3, rfl, fun _ h => by cases h⟩
    | some h =>
      obtain ⟨b, o, hp, a0, a1, a2, a3, a4⟩ := HL.out
      simp only [Value.pointer.injEq] at hp
      subst hp
      obtain ⟨hc, he, hr, hq, ho⟩ := h
      have e0 := cell_below HT3.out.b (Nat.le_refl _) a0
      have e1 := cell_below HT3.out.b (Nat.le_refl _) a1
      have e2 := cell_below HT3.out.b (Nat.le_refl _) a2
      have e3 := cell_below HT3.out.b (Nat.le_refl _) a3
      have e4 := cell_below HT3.out.b (Nat.le_refl _) a4
      simp only at e0 e1 e2 e3 e4
      clear a0 a1 a2 a3 a4
      go_wp2_with fail
      go_region_held3 (fun w' => w'.cell? ⟨w.heap.size, 12, none⟩ = some (.pointer (some ⟨b, o, none⟩)) ∧ w'.cell? ⟨b, o, none⟩ = some (.string hc) ∧ w'.cell? ⟨b, o + 1, none⟩ = some (.int .u64 he) ∧ w'.cell? ⟨b, o + 2, none⟩ = some (.string hr) ∧ w'.cell? ⟨b, o + 3, none⟩ = some (.int .i64 hq) ∧ w'.cell? ⟨b, o + 4, none⟩ = some (.string ho)) (first | exact ⟨c12, e0, e1, e2, e3, e4⟩ | exact ⟨cell_alloc c12 _, cell_alloc e0 _, cell_alloc e1 _, cell_alloc e2 _, cell_alloc e3 _, cell_alloc e4 _⟩) (fail)
      have hszc : w.heap.size + 1 + 1 < wc.heap.size := (Array.getElem?_eq_some_iff.1 HT3.out.ot).1
      have hBA : Below wc.heap.size wc (wc.alloc (.cells #[.string hc, .int .u64 he, .string hr, .int .i64 hq, .string ho] 48)).drew := ((Below.refl _ _).alloc (Nat.le_refl _) _).drew
      have HTA := hide (HT3.out.below hBA)
      have HWA := hide (HW3.out.below hBA (Nat.le_refl _))
      have HRA := hide (HR3.out.below hBA (Nat.le_refl _))
      have HXA := hide (HX3.out.below hBA (Nat.le_refl _))
      have HLA : Hid (EndP (wc.alloc (.cells #[.string hc, .int .u64 he, .string hr, .int .i64 hq, .string ho] 48)).drew (.pointer (some ⟨wc.heap.size, 0, none⟩)) (some (hc, he, hr, hq, ho))) :=
        ⟨wc.heap.size, 0, rfl, (World.cell?_alloc_at _ _ _ _ rfl).trans rfl, (World.cell?_alloc_at _ _ _ _ rfl).trans rfl, (World.cell?_alloc_at _ _ _ _ rfl).trans rfl, (World.cell?_alloc_at _ _ _ _ rfl).trans rfl, (World.cell?_alloc_at _ _ _ _ rfl).trans rfl⟩
      generalize (wc.alloc (.cells #[.string hc, .int .u64 he, .string hr, .int .i64 hq, .string ho] 48)).drew = wA at *
      have d12 := cell_of_block HTA.out.ot 12 _ rfl
      have f12 := frozen_of_block HTA.out.ot 12
      clear e0 e1 e2 e3 e4 c12 hBA
      go_wp2_with fail
      go_meet
      case rel =>
        exact ⟨some ⟨wc.heap.size, 0, none⟩, HTA.out.last _, HWA.out.keep (fun a ha => Below.heap_setCell _ _ _ _ (by have := HF1.out a ha; simp; omega)), HRA.out.keep (fun a ha => Below.heap_setCell _ _ _ _ (by have := HFR.out a ha; simp; omega)), HXA.out.keep (fun a ha => Below.heap_setCell _ _ _ _ (by have := HFX.out a ha; simp; omega)), HLA.out.keep (fun a ha => Below.heap_setCell _ _ _ _ (by cases ha; simp; omega)), fun a e => by cases e; exact hszc⟩
  case rest =>
  obtain ⟨lp', HT4, HW4, HR4, HX4, HL4, HFL⟩ := hcut
  clear HT3 HW3 HR3 HX3 c12 HL
  have o0 : wc.cell? ⟨w.heap.size + 1 + 1, 0, none⟩ = some (.string nm) := cell_of_block HT4.out.ot 0 _ rfl
  have z0 := cell_of_block HT4.out.rs 0 _ rfl
  have y0 := frozen_of_block HT4.out.rs 0
  have o1 : wc.cell? ⟨w.heap.size + 1 + 1, 1, none⟩ = some (.string kd) := cell_of_block HT4.out.ot 1 _ rfl
  have z1 := cell_of_block HT4.out.rs 1 _ rfl
  have y1 := frozen_of_block HT4.out.rs 1
  have o2 : wc.cell? ⟨w.heap.size + 1 + 1, 2, none⟩ = some (.string hs) := cell_of_block HT4.out.ot 2 _ rfl
  have z2 := cell_of_block HT4.out.rs 2 _ rfl
  have y2 := frozen_of_block HT4.out.rs 2
  have o3 : wc.cell? ⟨w.heap.size + 1 + 1, 3, none⟩ = some (.string pa) := cell_of_block HT4.out.ot 3 _ rfl
  have z3 := cell_of_block HT4.out.rs 3 _ rfl
  have y3 := frozen_of_block HT4.out.rs 3
  have o4 : wc.cell? ⟨w.heap.size + 1 + 1, 4, none⟩ = some (.int .u64 gen) := cell_of_block HT4.out.ot 4 _ rfl
  have z4 := cell_of_block HT4.out.rs 4 _ rfl
  have y4 := frozen_of_block HT4.out.rs 4
  have o5 : wc.cell? ⟨w.heap.size + 1 + 1, 5, none⟩ = some (.string phs) := cell_of_block HT4.out.ot 5 _ rfl
  have z5 := cell_of_block HT4.out.rs 5 _ rfl
  have y5 := frozen_of_block HT4.out.rs 5
  have o6 : wc.cell? ⟨w.heap.size + 1 + 1, 6, none⟩ = some (.int .u64 tr) := cell_of_block HT4.out.ot 6 _ rfl
  have z6 := cell_of_block HT4.out.rs 6 _ rfl
  have y6 := frozen_of_block HT4.out.rs 6
  have o7 : wc.cell? ⟨w.heap.size + 1 + 1, 7, none⟩ = some (.string ad) := cell_of_block HT4.out.ot 7 _ rfl
  have z7 := cell_of_block HT4.out.rs 7 _ rfl
  have y7 := frozen_of_block HT4.out.rs 7
  have o8 : wc.cell? ⟨w.heap.size + 1 + 1, 8, none⟩ = some (.bool cl) := cell_of_block HT4.out.ot 8 _ rfl
  have z8 := cell_of_block HT4.out.rs 8 _ rfl
  have y8 := frozen_of_block HT4.out.rs 8
  have o9 : wc.cell? ⟨w.heap.size + 1 + 1, 9, none⟩ = some (.pointer wp') := cell_of_block HT4.out.ot 9 _ rfl
  have z9 := cell_of_block HT4.out.rs 9 _ rfl
  have y9 := frozen_of_block HT4.out.rs 9
  have o10 : wc.cell? ⟨w.heap.size + 1 + 1, 10, none⟩ = some (.slice ra' rn rn) := cell_of_block HT4.out.ot 10 _ rfl
  have z10 := cell_of_block HT4.out.rs 10 _ rfl
  have y10 := frozen_of_block HT4.out.rs 10
  have o11 : wc.cell? ⟨w.heap.size + 1 + 1, 11, none⟩ = some (.pointer xp') := cell_of_block HT4.out.ot 11 _ rfl
  have z11 := cell_of_block HT4.out.rs 11 _ rfl
  have y11 := frozen_of_block HT4.out.rs 11
  have o12 : wc.cell? ⟨w.heap.size + 1 + 1, 12, none⟩ = some (.pointer lp') := cell_of_block HT4.out.ot 12 _ rfl
  have z12 := cell_of_block HT4.out.rs 12 _ rfl
  have y12 := frozen_of_block HT4.out.rs 12
  go_wp2_with fail
  obtain ⟨S13, R13⟩ := put13 HT4.out.rs (.string nm) (.string kd) (.string hs) (.string pa) (.int .u64 gen) (.string phs) (.int .u64 tr) (.string ad) (.bool cl) (.pointer wp') (.slice ra' rn rn) (.pointer xp') (.pointer lp')
  clear o0 o1 o2 o3 o4 o5 o6 o7 o8 o9 o10 o11 o12 z0 z1 z2 z3 z4 z5 z6 z7 z8 z9 z10 z11 z12 y0 y1 y2 y3 y4 y5 y6 y7 y8 y9 y10 y11 y12
  generalize (((((((((((((wc.setCell ⟨w.heap.size + 1, 0, none⟩ (.string nm)).setCell ⟨w.heap.size + 1, 1, none⟩ (.string kd)).setCell ⟨w.heap.size + 1, 2, none⟩ (.string hs)).setCell ⟨w.heap.size + 1, 3, none⟩ (.string pa)).setCell ⟨w.heap.size + 1, 4, none⟩ (.int .u64 gen)).setCell ⟨w.heap.size + 1, 5, none⟩ (.string phs)).setCell ⟨w.heap.size + 1, 6, none⟩ (.int .u64 tr)).setCell ⟨w.heap.size + 1, 7, none⟩ (.string ad)).setCell ⟨w.heap.size + 1, 8, none⟩ (.bool cl)).setCell ⟨w.heap.size + 1, 9, none⟩ (.pointer wp')).setCell ⟨w.heap.size + 1, 10, none⟩ (.slice ra' rn rn)).setCell ⟨w.heap.size + 1, 11, none⟩ (.pointer xp')).setCell ⟨w.heap.size + 1, 12, none⟩ (.pointer lp')) = W' at R13 S13 ⊢
  have k0 : W'.cell? ⟨w.heap.size + 1, 0, none⟩ = some (.string nm) := cell_of_block R13 0 _ rfl
  have k1 : W'.cell? ⟨w.heap.size + 1, 1, none⟩ = some (.string kd) := cell_of_block R13 1 _ rfl
  have k2 : W'.cell? ⟨w.heap.size + 1, 2, none⟩ = some (.string hs) := cell_of_block R13 2 _ rfl
  have k3 : W'.cell? ⟨w.heap.size + 1, 3, none⟩ = some (.string pa) := cell_of_block R13 3 _ rfl
  have k4 : W'.cell? ⟨w.heap.size + 1, 4, none⟩ = some (.int .u64 gen) := cell_of_block R13 4 _ rfl
  have k5 : W'.cell? ⟨w.heap.size + 1, 5, none⟩ = some (.string phs) := cell_of_block R13 5 _ rfl
  have k6 : W'.cell? ⟨w.heap.size + 1, 6, none⟩ = some (.int .u64 tr) := cell_of_block R13 6 _ rfl
  have k7 : W'.cell? ⟨w.heap.size + 1, 7, none⟩ = some (.string ad) := cell_of_block R13 7 _ rfl
  have k8 : W'.cell? ⟨w.heap.size + 1, 8, none⟩ = some (.bool cl) := cell_of_block R13 8 _ rfl
  have k9 : W'.cell? ⟨w.heap.size + 1, 9, none⟩ = some (.pointer wp') := cell_of_block R13 9 _ rfl
  have k10 : W'.cell? ⟨w.heap.size + 1, 10, none⟩ = some (.slice ra' rn rn) := cell_of_block R13 10 _ rfl
  have k11 : W'.cell? ⟨w.heap.size + 1, 11, none⟩ = some (.pointer xp') := cell_of_block R13 11 _ rfl
  have k12 : W'.cell? ⟨w.heap.size + 1, 12, none⟩ = some (.pointer lp') := cell_of_block R13 12 _ rfl
  (try simp only [Exit.inBlock, Exit.then])
  refine bodyPost_ret (v := .agg #[.string nm, .string kd, .string hs, .string pa, .int .u64 gen, .string phs, .int .u64 tr, .string ad, .bool cl, .pointer wp', .slice ra' rn rn, .pointer xp', .pointer lp']) (by simp [results, Try.results10, go_sem, k0, k1, k2, k3, k4, k5, k6, k7, k8, k9, k10, k11, k12]) rfl ?_
  refine ⟨wp', ra', xp', lp', rfl, ?_⟩
  have fin : ∀ W', Same wc W' (w.heap.size + 1) → HoldP W' (.pointer wp') wo ∧ Rds W' ra' rd ∧ (ra' = none → rn = 0) ∧ RunP W' (.pointer xp') xo ∧ EndP W' (.pointer lp') lo ∧ Below w.heap.size w W' := fun W' S =>
    ⟨HW4.out.keep (fun a ha => S.block _ (by have := HF1.out a ha; omega)), HR4.out.keep (fun a ha => S.block _ (by have := HFR.out a ha; omega)), HRN.out, HX4.out.keep (fun a ha => S.block _ (by have := HFX.out a ha; omega)), HL4.out.keep (fun a ha => S.block _ (by have := HFL.out a ha; omega)), S.below HT4.out.b (by omega)⟩
  exact fin W' S13
end Go.Proofs.Qxb6002694a

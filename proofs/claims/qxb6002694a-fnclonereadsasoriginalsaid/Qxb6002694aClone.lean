/-
  Resource.clone (26).
-/
import Derived.Test.Qxb6002694aClBase
namespace Go.Proofs.Qxb6002694a
open Go Go.RowKit
set_option maxRecDepth 100000
attribute [local go_sem ↓] Go.wp_at_zero Go.wp_at_succ

set_option maxHeartbeats 4000000 in
theorem clone26 (nm kd hs pa : ByteArray) (gen : Int) (phs : ByteArray) (tr : Int) (ad : ByteArray) (cl : Bool) (wp xp lp : Option Addr) (ra : Option Addr) (rn rc : Nat) (wo : Option HoldD) (rd : List HoldD) (xo : Option RunD) (lo : Option EndD) (w : World)
    (hw : HoldP w (.pointer wp) wo) (hr : Rds w ra rd) (hrn : rd.length = rn) (hrm : (rn : Int) ≤ 65536) (hx : RunP w (.pointer xp) xo) (hl : EndP w (.pointer lp) lo) :
    Calls Try.prog 26 #[.agg #[.string nm, .string kd, .string hs, .string pa, .int .u64 gen, .string phs, .int .u64 tr, .string ad, .bool cl, .pointer wp, .slice ra rn rc, .pointer xp, .pointer lp]] w fun e w' =>
      ∃ wp' ra' rc' xp' lp', e = .returned (.agg #[.string nm, .string kd, .string hs, .string pa, .int .u64 gen, .string phs, .int .u64 tr, .string ad, .bool cl, .pointer wp', .slice ra' rn rc', .pointer xp', .pointer lp']) ∧ HoldP w' (.pointer wp') wo ∧ Rds w' ra' rd ∧ (rn = 0 → ra' = none) ∧ RunP w' (.pointer xp') xo ∧ EndP w' (.pointer lp') lo ∧ Below w.heap.size w w' ∧ Far (w.heap.size + 1) wp' ∧ Far (w.heap.size + 1) ra' ∧ Far (w.heap.size + 1) xp' ∧ Far (w.heap.size + 1) lp' := by
  have HW := hide hw
  have HR := hide hr
  have HX := hide hx
  have HL := hide hl
  clear hw hr hx hl
  go_enter Try.func26, Try.ntmps26
  go_upto_region 1 with fail
  have T0 : CL w ((w.alloc (.cells #[.string nm, .string kd, .string hs, .string pa, .int .u64 gen, .string phs, .int .u64 tr, .string ad, .bool cl, .pointer wp, .slice ra rn rc, .pointer xp, .pointer lp] 35)).alloc (.cells #[.string ⟨#[]⟩, .string ⟨#[]⟩, .string ⟨#[]⟩, .string ⟨#[]⟩, .int .u64 0, .string ⟨#[]⟩, .int .u64 0, .string ⟨#[]⟩, .bool false, .pointer none, .slice none 0 0, .pointer none, .pointer none] 35)) #[.string ⟨#[]⟩, .string ⟨#[]⟩, .string ⟨#[]⟩, .string ⟨#[]⟩, .int .u64 0, .string ⟨#[]⟩, .int .u64 0, .string ⟨#[]⟩, .bool false, .pointer none, .slice none 0 0, .pointer none, .pointer none] #[.string nm, .string kd, .string hs, .string pa, .int .u64 gen, .string phs, .int .u64 tr, .string ad, .bool cl, .pointer wp, .slice ra rn rc, .pointer xp, .pointer lp] := by
    refine ⟨?_, ?_, ((Below.refl w.heap.size w).alloc (Nat.le_refl _) _).alloc (by simp) _⟩
    · rw [Below.heap_alloc _ _ _ (by simp)]; exact (MapKept.heap_alloc w _).1
    · simpa using (MapKept.heap_alloc (w.alloc (.cells #[.string nm, .string kd, .string hs, .string pa, .int .u64 gen, .string phs, .int .u64 tr, .string ad, .bool cl, .pointer wp, .slice ra rn rc, .pointer xp, .pointer lp] 35)) _).1
  have HT0 := hide T0
  clear T0
  generalize ((w.alloc _).alloc _ : World) = w1 at *
  have c9 : w1.cell? ⟨w.heap.size, 9, none⟩ = some (.pointer wp) := cell_of_block HT0.out.bx 9 _ rfl
  go_upto_if 8 with fail
  go_cut [] (fun wd => ∃ wp', Hid (CL w wd #[.string ⟨#[]⟩, .string ⟨#[]⟩, .string ⟨#[]⟩, .string ⟨#[]⟩, .int .u64 0, .string ⟨#[]⟩, .int .u64 0, .string ⟨#[]⟩, .bool false, .pointer none, .slice none 0 0, .pointer none, .pointer none] #[.string nm, .string kd, .string hs, .string pa, .int .u64 gen, .string phs, .int .u64 tr, .string ad, .bool cl, .pointer wp', .slice ra rn rc, .pointer xp, .pointer lp]) ∧ Hid (HoldP wd (.pointer wp') wo) ∧ Hid (Far (w.heap.size + 1) wp'))
  case first =>
    cases wo with
    | none =>
      have hwp : wp = none := by have h := HW.out; simpa [HoldP] using h
      subst hwp
      go_wp2_with fail
      go_meet
      case rel => exact ⟨none, HT0, rfl, fun _ h => by cases h⟩
    | some h =>
      obtain ⟨b, o, hp, hA⟩ := HW.out
      simp only [Value.pointer.injEq] at hp
      subst hp
      obtain ⟨hc, he, ht⟩ := h
      obtain ⟨a0, a1, a2⟩ := hA.below HT0.out.b (Nat.le_refl _)
      simp only at a0 a1 a2
      clear hA
      go_upto_region 3 with fail
      have hsz := HT0.out.lt
      have HT3 := hide (HT0.out.below ((Below.refl _ _).alloc (Nat.le_refl _) (.cells #[.string hc, .int .u64 he, .int .u64 ht] 42)))
      have HN := hide (show HoldP (w1.alloc (.cells #[.string hc, .int .u64 he, .int .u64 ht] 42)) (.pointer (some ⟨w1.heap.size, 0, none⟩)) (some (hc, he, ht)) from ⟨w1.heap.size, 0, rfl, (World.cell?_alloc_at _ _ _ _ rfl).trans rfl, (World.cell?_alloc_at _ _ _ _ rfl).trans rfl, (World.cell?_alloc_at _ _ _ _ rfl).trans rfl⟩)
      clear a0 a1 a2 c9
      generalize (w1.alloc (.cells #[.string hc, .int .u64 he, .int .u64 ht] 42)) = wA at *
      have d9 := cell_of_block HT3.out.bx 9 _ rfl
      have f9 := frozen_of_block HT3.out.bx 9
      go_wp2_with fail
      go_meet
      case rel =>
        exact ⟨some ⟨w1.heap.size, 0, none⟩, HT3.out.set 9 _, HN.out.keep (fun a ha => Below.heap_setCell _ _ _ _ (by cases ha; simp; omega)), (fun a e => by cases e; exact hsz)⟩
  case rest =>
  obtain ⟨wp', HT1, HW1, HF1⟩ := hcut
  clear HT0 c9 HW
  have c10 : wc.cell? ⟨w.heap.size, 10, none⟩ = some (.slice ra rn rc) := cell_of_block HT1.out.bx 10 _ rfl
  have hszw := HT1.out.lt
  have HRw := hide (HR.out.below HT1.out.b (Nat.le_refl _))
  clear HR
  go_upto_region 5 with (at_builtin; go_must (refine wpList_append_rds _ rfl _ _ rfl rfl ra rn rc rd rfl (unhide HRw) hrn hrm ?_; intro ra' rc' w2 hR2 hN2 hB2 hF2; have HR2 := hide hR2; have HN2 := hide hN2; have HF2 := hide hF2; have HT2 := hide (HT1.out.below hB2); have HW2 := hide (HW1.out.below hB2 (Nat.le_refl _)); clear hR2 hN2 hF2 hB2 c10; have d10 := cell_of_block HT2.out.bx 10 _ rfl; have f10 := frozen_of_block HT2.out.bx 10))
  have HT3 : Hid (CL w (w2.setCell ⟨w.heap.size, 10, none⟩ (.slice ra' rn rc')) #[.string ⟨#[]⟩, .string ⟨#[]⟩, .string ⟨#[]⟩, .string ⟨#[]⟩, .int .u64 0, .string ⟨#[]⟩, .int .u64 0, .string ⟨#[]⟩, .bool false, .pointer none, .slice none 0 0, .pointer none, .pointer none] #[.string nm, .string kd, .string hs, .string pa, .int .u64 gen, .string phs, .int .u64 tr, .string ad, .bool cl, .pointer wp', .slice ra' rn rc', .pointer xp, .pointer lp]) := HT2.out.set 10 _
  have HFR : Hid (Far (w.heap.size + 1) ra') := fun a ha => by have h1 := (HF2.out a ha).1; show w.heap.size + 1 < a.block; omega
  have HW3 := hide (HW2.out.keep (w' := w2.setCell ⟨w.heap.size, 10, none⟩ (.slice ra' rn rc')) (fun a ha => Below.heap_setCell _ _ _ _ (by have := HF1.out a ha; simp; omega)))
  have HR3 := hide (HR2.out.keep (w' := w2.setCell ⟨w.heap.size, 10, none⟩ (.slice ra' rn rc')) (fun a ha => Below.heap_setCell _ _ _ _ (by have := HFR.out a ha; simp; omega)))
  clear HT1 HW1 HT2 HW2 HR2 HF2 d10 f10 HRw
  generalize w2.setCell ⟨w.heap.size, 10, none⟩ (.slice ra' rn rc') = w3 at *
  have c11 : w3.cell? ⟨w.heap.size, 11, none⟩ = some (.pointer xp) := cell_of_block HT3.out.bx 11 _ rfl
  go_upto_if 20 with fail
  go_cut [] (fun wd => ∃ xp', Hid (CL w wd #[.string ⟨#[]⟩, .string ⟨#[]⟩, .string ⟨#[]⟩, .string ⟨#[]⟩, .int .u64 0, .string ⟨#[]⟩, .int .u64 0, .string ⟨#[]⟩, .bool false, .pointer none, .slice none 0 0, .pointer none, .pointer none] #[.string nm, .string kd, .string hs, .string pa, .int .u64 gen, .string phs, .int .u64 tr, .string ad, .bool cl, .pointer wp', .slice ra' rn rc', .pointer xp', .pointer lp]) ∧ Hid (HoldP wd (.pointer wp') wo) ∧ Hid (Rds wd ra' rd) ∧ Hid (RunP wd (.pointer xp') xo) ∧ Hid (Far (w.heap.size + 1) xp'))
  case first =>
    cases xo with
    | none =>
      have hxp : xp = none := by have h := HX.out; simpa [RunP] using h
      subst hxp
      go_wp2_with fail
      go_meet
      case rel => exact ⟨none, HT3, HW3, HR3, rfl, fun _ h => by cases h⟩
    | some h =>
      obtain ⟨b, o, hp, a0, a1⟩ := HX.out
      simp only [Value.pointer.injEq] at hp
      subst hp
      obtain ⟨hc, he⟩ := h
      have e0 := cell_below HT3.out.b (Nat.le_refl _) a0
      have e1 := cell_below HT3.out.b (Nat.le_refl _) a1
      simp only at e0 e1
      clear a0 a1
      go_upto_region 7 with fail
      have hsz := HT3.out.lt
      have hBA : Below w3.heap.size w3 (w3.alloc (.cells #[.string hc, .int .u64 he] 44)) := (Below.refl _ _).alloc (Nat.le_refl _) _
      have HTA := hide (HT3.out.below hBA)
      have HWA := hide (HW3.out.below hBA (Nat.le_refl _))
      have HRA := hide (HR3.out.below hBA (Nat.le_refl _))
      have HXA : Hid (RunP (w3.alloc (.cells #[.string hc, .int .u64 he] 44)) (.pointer (some ⟨w3.heap.size, 0, none⟩)) (some (hc, he))) :=
        ⟨w3.heap.size, 0, rfl, (World.cell?_alloc_at _ _ _ _ rfl).trans rfl, (World.cell?_alloc_at _ _ _ _ rfl).trans rfl⟩
      clear e0 e1 c11 hBA
      generalize (w3.alloc (.cells #[.string hc, .int .u64 he] 44)) = wA at *
      have d11 := cell_of_block HTA.out.bx 11 _ rfl
      have f11 := frozen_of_block HTA.out.bx 11
      go_wp2_with fail
      go_meet
      case rel =>
        exact ⟨some ⟨w3.heap.size, 0, none⟩, HTA.out.set 11 _, HWA.out.keep (fun a ha => Below.heap_setCell _ _ _ _ (by have := HF1.out a ha; simp; omega)), HRA.out.keep (fun a ha => Below.heap_setCell _ _ _ _ (by have := HFR.out a ha; simp; omega)), HXA.out.keep (fun a ha => Below.heap_setCell _ _ _ _ (by cases ha; simp; omega)), (fun a e => by cases e; exact hsz)⟩
  case rest =>
  obtain ⟨xp', HT4, HW4, HR4, HX4, HFX⟩ := hcut
  clear HT3 HW3 HR3 c11 HX
  have c12 : wc.cell? ⟨w.heap.size, 12, none⟩ = some (.pointer lp) := cell_of_block HT4.out.bx 12 _ rfl
  go_upto_if 28 with fail
  go_cut [] (fun wd => ∃ lp', Hid (CL w wd #[.string ⟨#[]⟩, .string ⟨#[]⟩, .string ⟨#[]⟩, .string ⟨#[]⟩, .int .u64 0, .string ⟨#[]⟩, .int .u64 0, .string ⟨#[]⟩, .bool false, .pointer none, .slice none 0 0, .pointer none, .pointer none] #[.string nm, .string kd, .string hs, .string pa, .int .u64 gen, .string phs, .int .u64 tr, .string ad, .bool cl, .pointer wp', .slice ra' rn rc', .pointer xp', .pointer lp']) ∧ Hid (HoldP wd (.pointer wp') wo) ∧ Hid (Rds wd ra' rd) ∧ Hid (RunP wd (.pointer xp') xo) ∧ Hid (EndP wd (.pointer lp') lo) ∧ Hid (Far (w.heap.size + 1) lp'))
  case first =>
    cases lo with
    | none =>
      have hlp : lp = none := by have h := HL.out; simpa [EndP] using h
      subst hlp
      go_wp2_with fail
      go_meet
      case rel => exact ⟨none, HT4, HW4, HR4, HX4, rfl, fun _ h => by cases h⟩
    | some h =>
      obtain ⟨b, o, hp, a0, a1, a2, a3, a4⟩ := HL.out
      simp only [Value.pointer.injEq] at hp
      subst hp
      obtain ⟨hc, he, hr, hq, ho⟩ := h
      have e0 := cell_below HT4.out.b (Nat.le_refl _) a0
      have e1 := cell_below HT4.out.b (Nat.le_refl _) a1
      have e2 := cell_below HT4.out.b (Nat.le_refl _) a2
      have e3 := cell_below HT4.out.b (Nat.le_refl _) a3
      have e4 := cell_below HT4.out.b (Nat.le_refl _) a4
      simp only at e0 e1 e2 e3 e4
      clear a0 a1 a2 a3 a4
      go_upto_region 10 with fail
      have hsz := HT4.out.lt
      have hBA : Below wc.heap.size wc (wc.alloc (.cells #[.string hc, .int .u64 he, .string hr, .int .i64 hq, .string ho] 48)) := (Below.refl _ _).alloc (Nat.le_refl _) _
      have HTA := hide (HT4.out.below hBA)
      have HWA := hide (HW4.out.below hBA (Nat.le_refl _))
      have HRA := hide (HR4.out.below hBA (Nat.le_refl _))
      have HXA := hide (HX4.out.below hBA (Nat.le_refl _))
      have HLA : Hid (EndP (wc.alloc (.cells #[.string hc, .int .u64 he, .string hr, .int .i64 hq, .string ho] 48)) (.pointer (some ⟨wc.heap.size, 0, none⟩)) (some (hc, he, hr, hq, ho))) :=
        ⟨wc.heap.size, 0, rfl, (World.cell?_alloc_at _ _ _ _ rfl).trans rfl, (World.cell?_alloc_at _ _ _ _ rfl).trans rfl, (World.cell?_alloc_at _ _ _ _ rfl).trans rfl, (World.cell?_alloc_at _ _ _ _ rfl).trans rfl, (World.cell?_alloc_at _ _ _ _ rfl).trans rfl⟩
      clear e0 e1 e2 e3 e4 c12 hBA
      generalize (wc.alloc (.cells #[.string hc, .int .u64 he, .string hr, .int .i64 hq, .string ho] 48)) = wA at *
      have d12 := cell_of_block HTA.out.bx 12 _ rfl
      have f12 := frozen_of_block HTA.out.bx 12
      go_wp2_with fail
      go_meet
      case rel =>
        exact ⟨some ⟨wc.heap.size, 0, none⟩, HTA.out.set 12 _, HWA.out.keep (fun a ha => Below.heap_setCell _ _ _ _ (by have := HF1.out a ha; simp; omega)), HRA.out.keep (fun a ha => Below.heap_setCell _ _ _ _ (by have := HFR.out a ha; simp; omega)), HXA.out.keep (fun a ha => Below.heap_setCell _ _ _ _ (by have := HFX.out a ha; simp; omega)), HLA.out.keep (fun a ha => Below.heap_setCell _ _ _ _ (by cases ha; simp; omega)), (fun a e => by cases e; exact hsz)⟩
  case rest =>
  obtain ⟨lp', HT5, HW5, HR5, HX5, HL5, HFL⟩ := hcut
  clear HT4 HW4 HR4 HX4 c12 HL
  have o0 : wc.cell? ⟨w.heap.size, 0, none⟩ = some (.string nm) := cell_of_block HT5.out.bx 0 _ rfl
  have z0 := cell_of_block HT5.out.rs 0 _ rfl
  have y0 := frozen_of_block HT5.out.rs 0
  have o1 : wc.cell? ⟨w.heap.size, 1, none⟩ = some (.string kd) := cell_of_block HT5.out.bx 1 _ rfl
  have z1 := cell_of_block HT5.out.rs 1 _ rfl
  have y1 := frozen_of_block HT5.out.rs 1
  have o2 : wc.cell? ⟨w.heap.size, 2, none⟩ = some (.string hs) := cell_of_block HT5.out.bx 2 _ rfl
  have z2 := cell_of_block HT5.out.rs 2 _ rfl
  have y2 := frozen_of_block HT5.out.rs 2
  have o3 : wc.cell? ⟨w.heap.size, 3, none⟩ = some (.string pa) := cell_of_block HT5.out.bx 3 _ rfl
  have z3 := cell_of_block HT5.out.rs 3 _ rfl
  have y3 := frozen_of_block HT5.out.rs 3
  have o4 : wc.cell? ⟨w.heap.size, 4, none⟩ = some (.int .u64 gen) := cell_of_block HT5.out.bx 4 _ rfl
  have z4 := cell_of_block HT5.out.rs 4 _ rfl
  have y4 := frozen_of_block HT5.out.rs 4
  have o5 : wc.cell? ⟨w.heap.size, 5, none⟩ = some (.string phs) := cell_of_block HT5.out.bx 5 _ rfl
  have z5 := cell_of_block HT5.out.rs 5 _ rfl
  have y5 := frozen_of_block HT5.out.rs 5
  have o6 : wc.cell? ⟨w.heap.size, 6, none⟩ = some (.int .u64 tr) := cell_of_block HT5.out.bx 6 _ rfl
  have z6 := cell_of_block HT5.out.rs 6 _ rfl
  have y6 := frozen_of_block HT5.out.rs 6
  have o7 : wc.cell? ⟨w.heap.size, 7, none⟩ = some (.string ad) := cell_of_block HT5.out.bx 7 _ rfl
  have z7 := cell_of_block HT5.out.rs 7 _ rfl
  have y7 := frozen_of_block HT5.out.rs 7
  have o8 : wc.cell? ⟨w.heap.size, 8, none⟩ = some (.bool cl) := cell_of_block HT5.out.bx 8 _ rfl
  have z8 := cell_of_block HT5.out.rs 8 _ rfl
  have y8 := frozen_of_block HT5.out.rs 8
  have o9 : wc.cell? ⟨w.heap.size, 9, none⟩ = some (.pointer wp') := cell_of_block HT5.out.bx 9 _ rfl
  have z9 := cell_of_block HT5.out.rs 9 _ rfl
  have y9 := frozen_of_block HT5.out.rs 9
  have o10 : wc.cell? ⟨w.heap.size, 10, none⟩ = some (.slice ra' rn rc') := cell_of_block HT5.out.bx 10 _ rfl
  have z10 := cell_of_block HT5.out.rs 10 _ rfl
  have y10 := frozen_of_block HT5.out.rs 10
  have o11 : wc.cell? ⟨w.heap.size, 11, none⟩ = some (.pointer xp') := cell_of_block HT5.out.bx 11 _ rfl
  have z11 := cell_of_block HT5.out.rs 11 _ rfl
  have y11 := frozen_of_block HT5.out.rs 11
  have o12 : wc.cell? ⟨w.heap.size, 12, none⟩ = some (.pointer lp') := cell_of_block HT5.out.bx 12 _ rfl
  have z12 := cell_of_block HT5.out.rs 12 _ rfl
  have y12 := frozen_of_block HT5.out.rs 12
  go_wp2_with fail
  obtain ⟨S13, R13⟩ := put13 HT5.out.rs (.string nm) (.string kd) (.string hs) (.string pa) (.int .u64 gen) (.string phs) (.int .u64 tr) (.string ad) (.bool cl) (.pointer wp') (.slice ra' rn rc') (.pointer xp') (.pointer lp')
  clear o0 o1 o2 o3 o4 o5 o6 o7 o8 o9 o10 o11 o12 z0 z1 z2 z3 z4 z5 z6 z7 z8 z9 z10 z11 z12 y0 y1 y2 y3 y4 y5 y6 y7 y8 y9 y10 y11 y12
  generalize (((((((((((((wc.setCell ⟨w.heap.size + 1, 0, none⟩ (.string nm)).setCell ⟨w.heap.size + 1, 1, none⟩ (.string kd)).setCell ⟨w.heap.size + 1, 2, none⟩ (.string hs)).setCell ⟨w.heap.size + 1, 3, none⟩ (.string pa)).setCell ⟨w.heap.size + 1, 4, none⟩ (.int .u64 gen)).setCell ⟨w.heap.size + 1, 5, none⟩ (.string phs)).setCell ⟨w.heap.size + 1, 6, none⟩ (.int .u64 tr)).setCell ⟨w.heap.size + 1, 7, none⟩ (.string ad)).setCell ⟨w.heap.size + 1, 8, none⟩ (.bool cl)).setCell ⟨w.heap.size + 1, 9, none⟩ (.pointer wp')).setCell ⟨w.heap.size + 1, 10, none⟩ (.slice ra' rn rc')).setCell ⟨w.heap.size + 1, 11, none⟩ (.pointer xp')).setCell ⟨w.heap.size + 1, 12, none⟩ (.pointer lp')) = W' at S13 R13 ⊢
  have k0 : W'.cell? ⟨w.heap.size + 1, 0, none⟩ = some (.string nm) := cell_of_block R13 0 _ rfl
  have k1 : W'.cell? ⟨w.heap.size + 1, 1, none⟩ = some (.string kd) := cell_of_block R13 1 _ rfl
  have k2 : W'.cell? ⟨w.heap.size + 1, 2, none⟩ = some (.string hs) := cell_of_block R13 2 _ rfl
  have k3 : W'.cell? ⟨w.heap.size + 1, 3, none⟩ = some (.string pa) := cell_of_block R13 3 _ rfl
  have k4 : W'.cell? ⟨w.heap.size + 1, 4, none⟩ = some (.int .u64 gen) := cell_of_block R13 4 _ rfl
  have k5 : W'.cell? ⟨w.heap.size + 1, 5, none⟩ = some (.string phs) := cell_of_block R13 5 _ rfl
  have k6 : W'.cell? ⟨w.heap.size + 1, 6, none⟩ = some (.int .u64 tr) := cell_of_block R13 6 _ rfl
  have k7 : W'.cell? ⟨w.heap.size + 1, 7, none⟩ = some (.string ad) := cell_of_block R13 7 _ rfl
  have k8 : W'.cell? ⟨w.heap.size + 1, 8, none⟩ = some (.bool cl) := cell_of_block R13 8 _ rfl
  have k9 : W'.cell? ⟨w.heap.size + 1, 9, none⟩ = some (.pointer wp') := cell_of_block R13 9 _ rfl
  have k10 : W'.cell? ⟨w.heap.size + 1, 10, none⟩ = some (.slice ra' rn rc') := cell_of_block R13 10 _ rfl
  have k11 : W'.cell? ⟨w.heap.size + 1, 11, none⟩ = some (.pointer xp') := cell_of_block R13 11 _ rfl
  have k12 : W'.cell? ⟨w.heap.size + 1, 12, none⟩ = some (.pointer lp') := cell_of_block R13 12 _ rfl
  (try simp only [Exit.inBlock, Exit.then])
  refine bodyPost_ret (v := .agg #[.string nm, .string kd, .string hs, .string pa, .int .u64 gen, .string phs, .int .u64 tr, .string ad, .bool cl, .pointer wp', .slice ra' rn rc', .pointer xp', .pointer lp']) (by simp [results, Try.results26, go_sem, k0, k1, k2, k3, k4, k5, k6, k7, k8, k9, k10, k11, k12]) rfl ?_
  exact ⟨wp', ra', rc', xp', lp', rfl, HW5.out.keep (fun a ha => S13.block _ (by have := HF1.out a ha; omega)), HR5.out.keep (fun a ha => S13.block _ (by have := HFR.out a ha; omega)), HN2.out, HX5.out.keep (fun a ha => S13.block _ (by have := HFX.out a ha; omega)), HL5.out.keep (fun a ha => S13.block _ (by have := HFL.out a ha; omega)), S13.below HT5.out.b (by omega), HF1.out, HFR.out, HFX.out, HFL.out⟩
end Go.Proofs.Qxb6002694a

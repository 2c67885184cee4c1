/-
  ZZClone (11).
-/
import Derived.Test.Qxb6002694aClone
namespace Go.Proofs.Qxb6002694a
open Go Go.RowKit
set_option maxRecDepth 100000
attribute [local go_sem ↓] Go.wp_at_zero Go.wp_at_succ

set_option maxHeartbeats 4000000 in
theorem zzclone11 (nm kd hs pa : ByteArray) (gen : Int) (phs : ByteArray) (tr : Int) (ad : ByteArray) (cl : Bool) (wp xp lp : Option Addr) (ra : Option Addr) (rn rc : Nat) (wo : Option HoldD) (rd : List HoldD) (xo : Option RunD) (lo : Option EndD) (w : World)
    (hw : HoldP w (.pointer wp) wo) (hr : Rds w ra rd) (hrn : rd.length = rn) (hrm : (rn : Int) ≤ 65536) (hx : RunP w (.pointer xp) xo) (hl : EndP w (.pointer lp) lo) :
    Calls Try.prog 11 #[.agg #[.string nm, .string kd, .string hs, .string pa, .int .u64 gen, .string phs, .int .u64 tr, .string ad, .bool cl, .pointer wp, .slice ra rn rc, .pointer xp, .pointer lp]] w fun e w' =>
      ∃ wp' ra' rc' xp' lp', e = .returned (.agg #[.string nm, .string kd, .string hs, .string pa, .int .u64 gen, .string phs, .int .u64 tr, .string ad, .bool cl, .pointer wp', .slice ra' rn rc', .pointer xp', .pointer lp']) ∧ HoldP w' (.pointer wp') wo ∧ Rds w' ra' rd ∧ (rn = 0 → ra' = none) ∧ RunP w' (.pointer xp') xo ∧ EndP w' (.pointer lp') lo ∧ Below w.heap.size w w' := by
  have HW := hide hw
  have HR := hide hr
  have HX := hide hx
  have HL := hide hl
  clear hw hr hx hl
  go_enter Try.func11, Try.ntmps11
  go_upto_region 1 with fail
  have T0 : CL w ((w.alloc (.cells #[.string nm, .string kd, .string hs, .string pa, .int .u64 gen, .string phs, .int .u64 tr, .string ad, .bool cl, .pointer wp, .slice ra rn rc, .pointer xp, .pointer lp] 35)).alloc (.cells #[.string ⟨#[]⟩, .string ⟨#[]⟩, .string ⟨#[]⟩, .string ⟨#[]⟩, .int .u64 0, .string ⟨#[]⟩, .int .u64 0, .string ⟨#[]⟩, .bool false, .pointer none, .slice none 0 0, .pointer none, .pointer none] 35)) #[.string ⟨#[]⟩, .string ⟨#[]⟩, .string ⟨#[]⟩, .string ⟨#[]⟩, .int .u64 0, .string ⟨#[]⟩, .int .u64 0, .string ⟨#[]⟩, .bool false, .pointer none, .slice none 0 0, .pointer none, .pointer none] #[.string nm, .string kd, .string hs, .string pa, .int .u64 gen, .string phs, .int .u64 tr, .string ad, .bool cl, .pointer wp, .slice ra rn rc, .pointer xp, .pointer lp] := by
    refine ⟨?_, ?_, ((Below.refl w.heap.size w).alloc (Nat.le_refl _) _).alloc (by simp) _⟩
    · rw [Below.heap_alloc _ _ _ (by simp)]; exact (MapKept.heap_alloc w _).1
    · simpa using (MapKept.heap_alloc (w.alloc (.cells #[.string nm, .string kd, .string hs, .string pa, .int .u64 gen, .string phs, .int .u64 tr, .string ad, .bool cl, .pointer wp, .slice ra rn rc, .pointer xp, .pointer lp] 35)) _).1
  have HT0 := hide T0
  clear T0
  generalize ((w.alloc _).alloc _ : World) = w1 at *
  have o0 : w1.cell? ⟨w.heap.size, 0, none⟩ = some (.string nm) := cell_of_block HT0.out.bx 0 _ rfl
  have o1 : w1.cell? ⟨w.heap.size, 1, none⟩ = some (.string kd) := cell_of_block HT0.out.bx 1 _ rfl
  have o2 : w1.cell? ⟨w.heap.size, 2, none⟩ = some (.string hs) := cell_of_block HT0.out.bx 2 _ rfl
  have o3 : w1.cell? ⟨w.heap.size, 3, none⟩ = some (.string pa) := cell_of_block HT0.out.bx 3 _ rfl
  have o4 : w1.cell? ⟨w.heap.size, 4, none⟩ = some (.int .u64 gen) := cell_of_block HT0.out.bx 4 _ rfl
  have o5 : w1.cell? ⟨w.heap.size, 5, none⟩ = some (.string phs) := cell_of_block HT0.out.bx 5 _ rfl
  have o6 : w1.cell? ⟨w.heap.size, 6, none⟩ = some (.int .u64 tr) := cell_of_block HT0.out.bx 6 _ rfl
  have o7 : w1.cell? ⟨w.heap.size, 7, none⟩ = some (.string ad) := cell_of_block HT0.out.bx 7 _ rfl
  have o8 : w1.cell? ⟨w.heap.size, 8, none⟩ = some (.bool cl) := cell_of_block HT0.out.bx 8 _ rfl
  have o9 : w1.cell? ⟨w.heap.size, 9, none⟩ = some (.pointer wp) := cell_of_block HT0.out.bx 9 _ rfl
  have o10 : w1.cell? ⟨w.heap.size, 10, none⟩ = some (.slice ra rn rc) := cell_of_block HT0.out.bx 10 _ rfl
  have o11 : w1.cell? ⟨w.heap.size, 11, none⟩ = some (.pointer xp) := cell_of_block HT0.out.bx 11 _ rfl
  have o12 : w1.cell? ⟨w.heap.size, 12, none⟩ = some (.pointer lp) := cell_of_block HT0.out.bx 12 _ rfl
  go_wp2_with fail
  refine (clone26 nm kd hs pa gen phs tr ad cl wp xp lp ra rn rc wo rd xo lo w1 (HW.out.below HT0.out.b (Nat.le_refl _)) (HR.out.below HT0.out.b (Nat.le_refl _)) hrn hrm (HX.out.below HT0.out.b (Nat.le_refl _)) (HL.out.below HT0.out.b (Nat.le_refl _))).mono ?_
  rintro e w2 ⟨wp', ra', rc', xp', lp', rfl, hw2, hr2, hn2, hx2, hl2, hB2, fw, fr, fx, fl⟩
  have hsz := HT0.out.lt
  have HT2 := hide (HT0.out.below hB2)
  have HW2 := hide hw2
  have HR2 := hide hr2
  have HN2 := hide hn2
  have HX2 := hide hx2
  have HL2 := hide hl2
  have HFW := hide fw
  have HFR := hide fr
  have HFX := hide fx
  have HFL := hide fl
  clear hw2 hr2 hn2 hx2 hl2 hB2 fw fr fx fl HW HR HX HL HT0 o0 o1 o2 o3 o4 o5 o6 o7 o8 o9 o10 o11 o12
  have z0 := cell_of_block HT2.out.rs 0 _ rfl
  have y0 := frozen_of_block HT2.out.rs 0
  have z1 := cell_of_block HT2.out.rs 1 _ rfl
  have y1 := frozen_of_block HT2.out.rs 1
  have z2 := cell_of_block HT2.out.rs 2 _ rfl
  have y2 := frozen_of_block HT2.out.rs 2
  have z3 := cell_of_block HT2.out.rs 3 _ rfl
  have y3 := frozen_of_block HT2.out.rs 3
  have z4 := cell_of_block HT2.out.rs 4 _ rfl
  have y4 := frozen_of_block HT2.out.rs 4
  have z5 := cell_of_block HT2.out.rs 5 _ rfl
  have y5 := frozen_of_block HT2.out.rs 5
  have z6 := cell_of_block HT2.out.rs 6 _ rfl
  have y6 := frozen_of_block HT2.out.rs 6
  have z7 := cell_of_block HT2.out.rs 7 _ rfl
  have y7 := frozen_of_block HT2.out.rs 7
  have z8 := cell_of_block HT2.out.rs 8 _ rfl
  have y8 := frozen_of_block HT2.out.rs 8
  have z9 := cell_of_block HT2.out.rs 9 _ rfl
  have y9 := frozen_of_block HT2.out.rs 9
  have z10 := cell_of_block HT2.out.rs 10 _ rfl
  have y10 := frozen_of_block HT2.out.rs 10
  have z11 := cell_of_block HT2.out.rs 11 _ rfl
  have y11 := frozen_of_block HT2.out.rs 11
  have z12 := cell_of_block HT2.out.rs 12 _ rfl
  have y12 := frozen_of_block HT2.out.rs 12
  go_wp2_with fail
  obtain ⟨S13, R13⟩ := put13 HT2.out.rs (.string nm) (.string kd) (.string hs) (.string pa) (.int .u64 gen) (.string phs) (.int .u64 tr) (.string ad) (.bool cl) (.pointer wp') (.slice ra' rn rc') (.pointer xp') (.pointer lp')
  clear z0 z1 z2 z3 z4 z5 z6 z7 z8 z9 z10 z11 z12 y0 y1 y2 y3 y4 y5 y6 y7 y8 y9 y10 y11 y12
  generalize (((((((((((((w2.setCell ⟨w.heap.size + 1, 0, none⟩ (.string nm)).setCell ⟨w.heap.size + 1, 1, none⟩ (.string kd)).setCell ⟨w.heap.size + 1, 2, none⟩ (.string hs)).setCell ⟨w.heap.size + 1, 3, none⟩ (.string pa)).setCell ⟨w.heap.size + 1, 4, none⟩ (.int .u64 gen)).setCell ⟨w.heap.size + 1, 5, none⟩ (.string phs)).setCell ⟨w.heap.size + 1, 6, none⟩ (.int .u64 tr)).setCell ⟨w.heap.size + 1, 7, none⟩ (.string ad)).setCell ⟨w.heap.size + 1, 8, none⟩ (.bool cl)).setCell ⟨w.heap.size + 1, 9, none⟩ (.pointer wp')).setCell ⟨w.heap.size + 1, 10, none⟩ (.slice ra' rn rc')).setCell ⟨w.heap.size + 1, 11, none⟩ (.pointer xp')).setCell ⟨w.heap.size + 1, 12, none⟩ (.pointer lp')) = W' at S13 R13 ⊢
  have k0 : W'.cell? ⟨w.heap.size + 1, 0, none⟩ = some (.string nm) := cell_of_block R13 0 _ rfl
  have k1 : W'.cell? ⟨w.heap.size + 1, 1, none⟩ = some (.string kd) := cell_of_block R13 1 _ rfl
  have k2 : W'.cell? ⟨w.heap.size + 1, 2, none⟩ = some (.string hs) := cell_of_block R13 2 _ rfl
  have k3 : W'.cell? ⟨w.heap.size + 1, 3, none⟩ = some (.string pa) := cell_of_block R13 3 _ rfl
  have k4 : W'.cell? ⟨w.heap.size + 1, 4, none⟩ = some (.int .u64 gen) := cell_of_block R13 4 _ rfl
  have k5 : W'.cell? ⟨w.heap.size + 1, 5, none⟩ = some (.string phs) := cell_of_block R13 5 _ rfl
  have k6 : W'.cell? ⟨w.heap.size + 1, 6, none⟩ = some (.int .u64 tr) := cell_of_block R13 6 _ rfl
  have k7 : W'.cell? ⟨w.heap.size + 1, 7, none⟩ = some (.string ad) := cell_of_block R13 7 _ rfl
  have k8 : W'.cell? ⟨w.heap.size + 1, 8, none⟩ = some (.bool cl) := cell_of_block R13 8 _ rfl
  have k9 : W'.cell? ⟨w.heap.size + 1, 9, none⟩ = some (.pointer wp') := cell_of_block R13 9 _ rfl
  have k10 : W'.cell? ⟨w.heap.size + 1, 10, none⟩ = some (.slice ra' rn rc') := cell_of_block R13 10 _ rfl
  have k11 : W'.cell? ⟨w.heap.size + 1, 11, none⟩ = some (.pointer xp') := cell_of_block R13 11 _ rfl
  have k12 : W'.cell? ⟨w.heap.size + 1, 12, none⟩ = some (.pointer lp') := cell_of_block R13 12 _ rfl
  (try simp only [Exit.inBlock, Exit.then])
  refine bodyPost_ret (v := .agg #[.string nm, .string kd, .string hs, .string pa, .int .u64 gen, .string phs, .int .u64 tr, .string ad, .bool cl, .pointer wp', .slice ra' rn rc', .pointer xp', .pointer lp']) (by simp [results, Try.results11, go_sem, k0, k1, k2, k3, k4, k5, k6, k7, k8, k9, k10, k11, k12]) rfl ?_
  exact ⟨wp', ra', rc', xp', lp', rfl, HW2.out.keep (fun a ha => S13.block _ (by have := HFW.out a ha; omega)), HR2.out.keep (fun a ha => S13.block _ (by have := HFR.out a ha; omega)), HN2.out, HX2.out.keep (fun a ha => S13.block _ (by have := HFX.out a ha; omega)), HL2.out.keep (fun a ha => S13.block _ (by have := HFL.out a ha; omega)), S13.below HT2.out.b (by omega)⟩
end Go.Proofs.Qxb6002694a

/-
  FnCloneReadsAsOriginal (3) walked.
-/
import Derived.Test.Qxb6002694aToReg
import Derived.Test.Qxb6002694aZZClone
import Derived.Test.Qxb6002694aEqual
import Derived.Test.Qxb6002694aBytes
namespace Go.Proofs.Qxb6002694a
open Go Go.RowKit
set_option maxRecDepth 100000
attribute [local go_sem ↓] Go.wp_at_zero Go.wp_at_succ

theorem block_below {w w' : World} {B b : Nat} {o : Obj} (h : w.heap[b]? = some o) (hB : Below B w w') (hs : w.heap.size ≤ B) : w'.heap[b]? = some o :=
  (hB.block b (Nat.lt_of_lt_of_le (Array.getElem?_eq_some_iff.1 h).1 hs)).trans h

set_option maxHeartbeats 4000000 in
theorem clone_main (nm kd hs pa : ByteArray) (gen : Int) (phs : ByteArray) (tr : Int) (ad : ByteArray) (cl : Bool) (wp xp lp : Option Addr) (ra : Option Addr) (rn rc : Nat) (wo : Option HoldD) (rd : List HoldD) (xo : Option RunD) (lo : Option EndD) (w : World)
    (hw : HoldP w (.pointer wp) wo) (hr : Rds w ra rd) (hrn : rd.length = rn) (hnil : ra = none → rn = 0 ∧ rc = 0) (hx : RunP w (.pointer xp) xo) (hl : EndP w (.pointer lp) lo) (hL : Lens nm kd hs pa phs ad wo rd xo lo) :
    Calls Try.prog 3 #[.agg #[.string nm, .string kd, .string hs, .string pa, .int .u64 gen, .string phs, .int .u64 tr, .string ad, .bool cl, .pointer wp, .slice ra rn rc, .pointer xp, .pointer lp]] w fun e w' => e = .returned (.bool true) ∧ Below w.heap.size w w' := by
  have HW := hide hw
  have HR := hide hr
  have HX := hide hx
  have HL := hide hl
  have LL := hide hL
  have HN := hide hnil
  clear hw hr hx hl hL hnil
  go_enter Try.func3, Try.ntmps3
  go_upto_region 1 with fail
  have B1 := hide (show Below w.heap.size w (w.alloc (.cells #[.string nm, .string kd, .string hs, .string pa, .int .u64 gen, .string phs, .int .u64 tr, .string ad, .bool cl, .pointer wp, .slice ra rn rc, .pointer xp, .pointer lp] 28)) from (Below.refl w.heap.size w).alloc (Nat.le_refl _) _)
  have X1 := hide (MapKept.heap_alloc w (.cells #[.string nm, .string kd, .string hs, .string pa, .int .u64 gen, .string phs, .int .u64 tr, .string ad, .bool cl, .pointer wp, .slice ra rn rc, .pointer xp, .pointer lp] 28)).1
  generalize (w.alloc _ : World) = w1 at *
  have a0 : w1.cell? ⟨w.heap.size, 0, none⟩ = some (.string nm) := cell_of_block X1.out 0 _ rfl
  have a1 : w1.cell? ⟨w.heap.size, 1, none⟩ = some (.string kd) := cell_of_block X1.out 1 _ rfl
  have a2 : w1.cell? ⟨w.heap.size, 2, none⟩ = some (.string hs) := cell_of_block X1.out 2 _ rfl
  have a3 : w1.cell? ⟨w.heap.size, 3, none⟩ = some (.string pa) := cell_of_block X1.out 3 _ rfl
  have a4 : w1.cell? ⟨w.heap.size, 4, none⟩ = some (.int .u64 gen) := cell_of_block X1.out 4 _ rfl
  have a5 : w1.cell? ⟨w.heap.size, 5, none⟩ = some (.string phs) := cell_of_block X1.out 5 _ rfl
  have a6 : w1.cell? ⟨w.heap.size, 6, none⟩ = some (.int .u64 tr) := cell_of_block X1.out 6 _ rfl
  have a7 : w1.cell? ⟨w.heap.size, 7, none⟩ = some (.string ad) := cell_of_block X1.out 7 _ rfl
  have a8 : w1.cell? ⟨w.heap.size, 8, none⟩ = some (.bool cl) := cell_of_block X1.out 8 _ rfl
  have a9 : w1.cell? ⟨w.heap.size, 9, none⟩ = some (.pointer wp) := cell_of_block X1.out 9 _ rfl
  have a10 : w1.cell? ⟨w.heap.size, 10, none⟩ = some (.slice ra rn rc) := cell_of_block X1.out 10 _ rfl
  have a11 : w1.cell? ⟨w.heap.size, 11, none⟩ = some (.pointer xp) := cell_of_block X1.out 11 _ rfl
  have a12 : w1.cell? ⟨w.heap.size, 12, none⟩ = some (.pointer lp) := cell_of_block X1.out 12 _ rfl
  go_wp2_with fail
  refine (bytes8 nm kd hs pa gen phs tr ad cl wp xp lp ra rn rc wo rd xo lo w1 (HW.out.below B1.out (Nat.le_refl _)) (HR.out.below B1.out (Nat.le_refl _)) hrn (HX.out.below B1.out (Nat.le_refl _)) (HL.out.below B1.out (Nat.le_refl _)) LL.out).mono ?_
  rintro e w2 ⟨⟨r, rfl, _⟩, hB2⟩
  have B2 := hide (B1.out.trans (hB2.mono B1.out.size))
  have X2 := hide (block_below X1.out hB2 (Nat.le_refl _))
  clear hB2 B1 X1 a0 a1 a2 a3 a4 a5 a6 a7 a8 a9 a10 a11 a12
  cases r with
  | false =>
    go_wp2_with fail
    go_ret
    exact ⟨rfl, B2.out⟩
  | true =>
  have a0 : w2.cell? ⟨w.heap.size, 0, none⟩ = some (.string nm) := cell_of_block X2.out 0 _ rfl
  have a1 : w2.cell? ⟨w.heap.size, 1, none⟩ = some (.string kd) := cell_of_block X2.out 1 _ rfl
  have a2 : w2.cell? ⟨w.heap.size, 2, none⟩ = some (.string hs) := cell_of_block X2.out 2 _ rfl
  have a3 : w2.cell? ⟨w.heap.size, 3, none⟩ = some (.string pa) := cell_of_block X2.out 3 _ rfl
  have a4 : w2.cell? ⟨w.heap.size, 4, none⟩ = some (.int .u64 gen) := cell_of_block X2.out 4 _ rfl
  have a5 : w2.cell? ⟨w.heap.size, 5, none⟩ = some (.string phs) := cell_of_block X2.out 5 _ rfl
  have a6 : w2.cell? ⟨w.heap.size, 6, none⟩ = some (.int .u64 tr) := cell_of_block X2.out 6 _ rfl
  have a7 : w2.cell? ⟨w.heap.size, 7, none⟩ = some (.string ad) := cell_of_block X2.out 7 _ rfl
  have a8 : w2.cell? ⟨w.heap.size, 8, none⟩ = some (.bool cl) := cell_of_block X2.out 8 _ rfl
  have a9 : w2.cell? ⟨w.heap.size, 9, none⟩ = some (.pointer wp) := cell_of_block X2.out 9 _ rfl
  have a10 : w2.cell? ⟨w.heap.size, 10, none⟩ = some (.slice ra rn rc) := cell_of_block X2.out 10 _ rfl
  have a11 : w2.cell? ⟨w.heap.size, 11, none⟩ = some (.pointer xp) := cell_of_block X2.out 11 _ rfl
  have a12 : w2.cell? ⟨w.heap.size, 12, none⟩ = some (.pointer lp) := cell_of_block X2.out 12 _ rfl
  go_wp2_with fail
  refine (size9 nm kd hs pa gen phs tr ad cl wp xp lp ra rn rc wo rd xo lo w2 (HW.out.below B2.out (Nat.le_refl _)) (HR.out.below B2.out (Nat.le_refl _)) hrn (HX.out.below B2.out (Nat.le_refl _)) (HL.out.below B2.out (Nat.le_refl _)) LL.out).mono ?_
  rintro e w3 ⟨⟨r, rfl, hrm0⟩, hB3⟩
  have B3 := hide (B2.out.trans (hB3.mono B2.out.size))
  have X3 := hide (block_below X2.out hB3 (Nat.le_refl _))
  clear hB3 B2 X2 a0 a1 a2 a3 a4 a5 a6 a7 a8 a9 a10 a11 a12
  cases r with
  | false =>
    go_wp2_with fail
    go_ret
    exact ⟨rfl, B3.out⟩
  | true =>
  have hrm := hrm0 rfl
  clear hrm0
  have a0 : w3.cell? ⟨w.heap.size, 0, none⟩ = some (.string nm) := cell_of_block X3.out 0 _ rfl
  have a1 : w3.cell? ⟨w.heap.size, 1, none⟩ = some (.string kd) := cell_of_block X3.out 1 _ rfl
  have a2 : w3.cell? ⟨w.heap.size, 2, none⟩ = some (.string hs) := cell_of_block X3.out 2 _ rfl
  have a3 : w3.cell? ⟨w.heap.size, 3, none⟩ = some (.string pa) := cell_of_block X3.out 3 _ rfl
  have a4 : w3.cell? ⟨w.heap.size, 4, none⟩ = some (.int .u64 gen) := cell_of_block X3.out 4 _ rfl
  have a5 : w3.cell? ⟨w.heap.size, 5, none⟩ = some (.string phs) := cell_of_block X3.out 5 _ rfl
  have a6 : w3.cell? ⟨w.heap.size, 6, none⟩ = some (.int .u64 tr) := cell_of_block X3.out 6 _ rfl
  have a7 : w3.cell? ⟨w.heap.size, 7, none⟩ = some (.string ad) := cell_of_block X3.out 7 _ rfl
  have a8 : w3.cell? ⟨w.heap.size, 8, none⟩ = some (.bool cl) := cell_of_block X3.out 8 _ rfl
  have a9 : w3.cell? ⟨w.heap.size, 9, none⟩ = some (.pointer wp) := cell_of_block X3.out 9 _ rfl
  have a10 : w3.cell? ⟨w.heap.size, 10, none⟩ = some (.slice ra rn rc) := cell_of_block X3.out 10 _ rfl
  have a11 : w3.cell? ⟨w.heap.size, 11, none⟩ = some (.pointer xp) := cell_of_block X3.out 11 _ rfl
  have a12 : w3.cell? ⟨w.heap.size, 12, none⟩ = some (.pointer lp) := cell_of_block X3.out 12 _ rfl
  go_wp2_with fail
  refine (toReg10 nm kd hs pa gen phs tr ad cl wp xp lp ra rn rc wo rd xo lo w3 (HW.out.below B3.out (Nat.le_refl _)) (HR.out.below B3.out (Nat.le_refl _)) hrn hrm HN.out (HX.out.below B3.out (Nat.le_refl _)) (HL.out.below B3.out (Nat.le_refl _))).mono ?_
  rintro e w4 ⟨sw, sa, sx, sl, rfl, sHW, sHR, sHN, sHX, sHL, hB4⟩
  clear a0 a1 a2 a3 a4 a5 a6 a7 a8 a9 a10 a11 a12
  go_upto_region 6 with fail
  have hBS : Below w4.heap.size w4 (w4.alloc (.cells #[.string nm, .string kd, .string hs, .string pa, .int .u64 gen, .string phs, .int .u64 tr, .string ad, .bool cl, .pointer sw, .slice sa rn rn, .pointer sx, .pointer sl] 35)) := (Below.refl _ _).alloc (Nat.le_refl _) _
  have B5 := hide ((B3.out.trans (hB4.mono B3.out.size)).trans (hBS.mono (B3.out.trans (hB4.mono B3.out.size)).size))
  have X5 := hide (block_below (block_below X3.out hB4 (Nat.le_refl _)) hBS (Nat.le_refl _))
  have S5 := hide (MapKept.heap_alloc w4 (.cells #[.string nm, .string kd, .string hs, .string pa, .int .u64 gen, .string phs, .int .u64 tr, .string ad, .bool cl, .pointer sw, .slice sa rn rn, .pointer sx, .pointer sl] 35)).1
  have SW := hide (sHW.below hBS (Nat.le_refl _))
  have SR := hide (sHR.below hBS (Nat.le_refl _))
  have SX := hide (sHX.below hBS (Nat.le_refl _))
  have SL := hide (sHL.below hBS (Nat.le_refl _))
  have SN := hide sHN
  clear sHW sHR sHX sHL sHN hBS hB4 B3 X3
  generalize (w4.alloc (.cells #[.string nm, .string kd, .string hs, .string pa, .int .u64 gen, .string phs, .int .u64 tr, .string ad, .bool cl, .pointer sw, .slice sa rn rn, .pointer sx, .pointer sl] 35)) = w5 at *
  generalize w4.heap.size = bS at *
  have s0 : w5.cell? ⟨bS, 0, none⟩ = some (.string nm) := cell_of_block S5.out 0 _ rfl
  have s1 : w5.cell? ⟨bS, 1, none⟩ = some (.string kd) := cell_of_block S5.out 1 _ rfl
  have s2 : w5.cell? ⟨bS, 2, none⟩ = some (.string hs) := cell_of_block S5.out 2 _ rfl
  have s3 : w5.cell? ⟨bS, 3, none⟩ = some (.string pa) := cell_of_block S5.out 3 _ rfl
  have s4 : w5.cell? ⟨bS, 4, none⟩ = some (.int .u64 gen) := cell_of_block S5.out 4 _ rfl
  have s5 : w5.cell? ⟨bS, 5, none⟩ = some (.string phs) := cell_of_block S5.out 5 _ rfl
  have s6 : w5.cell? ⟨bS, 6, none⟩ = some (.int .u64 tr) := cell_of_block S5.out 6 _ rfl
  have s7 : w5.cell? ⟨bS, 7, none⟩ = some (.string ad) := cell_of_block S5.out 7 _ rfl
  have s8 : w5.cell? ⟨bS, 8, none⟩ = some (.bool cl) := cell_of_block S5.out 8 _ rfl
  have s9 : w5.cell? ⟨bS, 9, none⟩ = some (.pointer sw) := cell_of_block S5.out 9 _ rfl
  have s10 : w5.cell? ⟨bS, 10, none⟩ = some (.slice sa rn rn) := cell_of_block S5.out 10 _ rfl
  have s11 : w5.cell? ⟨bS, 11, none⟩ = some (.pointer sx) := cell_of_block S5.out 11 _ rfl
  have s12 : w5.cell? ⟨bS, 12, none⟩ = some (.pointer sl) := cell_of_block S5.out 12 _ rfl
  go_wp2_with fail
  refine (zzclone11 nm kd hs pa gen phs tr ad cl sw sx sl sa rn rn wo rd xo lo w5 SW.out SR.out hrn hrm SX.out SL.out).mono ?_
  rintro e w6 ⟨kw, ka, kc, kx, kl, rfl, kHW, kHR, kHN, kHX, kHL, hB6⟩
  clear s0 s1 s2 s3 s4 s5 s6 s7 s8 s9 s10 s11 s12
  go_upto_region 7 with fail
  have hBC : Below w6.heap.size w6 (w6.alloc (.cells #[.string nm, .string kd, .string hs, .string pa, .int .u64 gen, .string phs, .int .u64 tr, .string ad, .bool cl, .pointer kw, .slice ka rn kc, .pointer kx, .pointer kl] 35)) := (Below.refl _ _).alloc (Nat.le_refl _) _
  have hB7 : Below w5.heap.size w5 (w6.alloc (.cells #[.string nm, .string kd, .string hs, .string pa, .int .u64 gen, .string phs, .int .u64 tr, .string ad, .bool cl, .pointer kw, .slice ka rn kc, .pointer kx, .pointer kl] 35)) := hB6.trans (hBC.mono hB6.size)
  have B7 := hide (B5.out.trans (hB7.mono B5.out.size))
  have X7 := hide (block_below X5.out hB7 (Nat.le_refl _))
  have S7 := hide (block_below S5.out hB7 (Nat.le_refl _))
  have C7 := hide (MapKept.heap_alloc w6 (.cells #[.string nm, .string kd, .string hs, .string pa, .int .u64 gen, .string phs, .int .u64 tr, .string ad, .bool cl, .pointer kw, .slice ka rn kc, .pointer kx, .pointer kl] 35)).1
  have SW7 := hide (SW.out.below hB7 (Nat.le_refl _))
  have SR7 := hide (SR.out.below hB7 (Nat.le_refl _))
  have SX7 := hide (SX.out.below hB7 (Nat.le_refl _))
  have SL7 := hide (SL.out.below hB7 (Nat.le_refl _))
  have KW := hide (kHW.below hBC (Nat.le_refl _))
  have KR := hide (kHR.below hBC (Nat.le_refl _))
  have KX := hide (kHX.below hBC (Nat.le_refl _))
  have KL := hide (kHL.below hBC (Nat.le_refl _))
  have KN := hide kHN
  clear kHW kHR kHX kHL kHN hBC hB6 hB7 B5 X5 S5 SW SR SX SL
  generalize (w6.alloc (.cells #[.string nm, .string kd, .string hs, .string pa, .int .u64 gen, .string phs, .int .u64 tr, .string ad, .bool cl, .pointer kw, .slice ka rn kc, .pointer kx, .pointer kl] 35)) = w7 at *
  generalize w6.heap.size = bC at *
  have s10 : w7.cell? ⟨bS, 10, none⟩ = some (.slice sa rn rn) := cell_of_block S7.out 10 _ rfl
  have k10 : w7.cell? ⟨bC, 10, none⟩ = some (.slice ka rn kc) := cell_of_block C7.out 10 _ rfl
  have hnilE := fun (W : World) (a : Option Addr) (n c n' c' : Nat) => Lib.run_eql_slice_nil (P := Try.prog) W _ _ a n c n' c' Try.underlying31
  go_cut [22] (fun c wd => c = .bool false ∧ wd = w7)
  case first =>
    cases sa with
    | none =>
      obtain rfl := KN.out (SN.out rfl)
      go_wp2_with fail
      go_meet
      case rel => exact ⟨rfl, rfl⟩
    | some sa =>
      go_wp2_with fail
      go_meet
      case rel => exact ⟨rfl, rfl⟩
  case rest =>
  obtain ⟨rfl, hwc⟩ := hcut
  rw [hwc]
  clear hwc wc s10 k10 hnilE
  have s0 : w7.cell? ⟨bS, 0, none⟩ = some (.string nm) := cell_of_block S7.out 0 _ rfl
  have s1 : w7.cell? ⟨bS, 1, none⟩ = some (.string kd) := cell_of_block S7.out 1 _ rfl
  have s2 : w7.cell? ⟨bS, 2, none⟩ = some (.string hs) := cell_of_block S7.out 2 _ rfl
  have s3 : w7.cell? ⟨bS, 3, none⟩ = some (.string pa) := cell_of_block S7.out 3 _ rfl
  have s4 : w7.cell? ⟨bS, 4, none⟩ = some (.int .u64 gen) := cell_of_block S7.out 4 _ rfl
  have s5 : w7.cell? ⟨bS, 5, none⟩ = some (.string phs) := cell_of_block S7.out 5 _ rfl
  have s6 : w7.cell? ⟨bS, 6, none⟩ = some (.int .u64 tr) := cell_of_block S7.out 6 _ rfl
  have s7 : w7.cell? ⟨bS, 7, none⟩ = some (.string ad) := cell_of_block S7.out 7 _ rfl
  have s8 : w7.cell? ⟨bS, 8, none⟩ = some (.bool cl) := cell_of_block S7.out 8 _ rfl
  have s9 : w7.cell? ⟨bS, 9, none⟩ = some (.pointer sw) := cell_of_block S7.out 9 _ rfl
  have s10 : w7.cell? ⟨bS, 10, none⟩ = some (.slice sa rn rn) := cell_of_block S7.out 10 _ rfl
  have s11 : w7.cell? ⟨bS, 11, none⟩ = some (.pointer sx) := cell_of_block S7.out 11 _ rfl
  have s12 : w7.cell? ⟨bS, 12, none⟩ = some (.pointer sl) := cell_of_block S7.out 12 _ rfl
  have k0 : w7.cell? ⟨bC, 0, none⟩ = some (.string nm) := cell_of_block C7.out 0 _ rfl
  have k1 : w7.cell? ⟨bC, 1, none⟩ = some (.string kd) := cell_of_block C7.out 1 _ rfl
  have k2 : w7.cell? ⟨bC, 2, none⟩ = some (.string hs) := cell_of_block C7.out 2 _ rfl
  have k3 : w7.cell? ⟨bC, 3, none⟩ = some (.string pa) := cell_of_block C7.out 3 _ rfl
  have k4 : w7.cell? ⟨bC, 4, none⟩ = some (.int .u64 gen) := cell_of_block C7.out 4 _ rfl
  have k5 : w7.cell? ⟨bC, 5, none⟩ = some (.string phs) := cell_of_block C7.out 5 _ rfl
  have k6 : w7.cell? ⟨bC, 6, none⟩ = some (.int .u64 tr) := cell_of_block C7.out 6 _ rfl
  have k7 : w7.cell? ⟨bC, 7, none⟩ = some (.string ad) := cell_of_block C7.out 7 _ rfl
  have k8 : w7.cell? ⟨bC, 8, none⟩ = some (.bool cl) := cell_of_block C7.out 8 _ rfl
  have k9 : w7.cell? ⟨bC, 9, none⟩ = some (.pointer kw) := cell_of_block C7.out 9 _ rfl
  have k10 : w7.cell? ⟨bC, 10, none⟩ = some (.slice ka rn kc) := cell_of_block C7.out 10 _ rfl
  have k11 : w7.cell? ⟨bC, 11, none⟩ = some (.pointer kx) := cell_of_block C7.out 11 _ rfl
  have k12 : w7.cell? ⟨bC, 12, none⟩ = some (.pointer kl) := cell_of_block C7.out 12 _ rfl
  go_wp2_with fail
  refine (equal12 nm kd hs pa gen phs tr ad cl kw kx kl sw sx sl ka sa rn kc rn wo rd xo lo w7 KW.out KR.out KX.out KL.out SW7.out SR7.out SX7.out SL7.out hrn hrm).mono ?_
  rintro e w8 ⟨rfl, hB8⟩
  have B8 := hide (B7.out.trans (hB8.mono B7.out.size))
  have X8 := hide (block_below X7.out hB8 (Nat.le_refl _))
  have C8 := hide (block_below C7.out hB8 (Nat.le_refl _))
  have KW8 := hide (KW.out.below hB8 (Nat.le_refl _))
  have KR8 := hide (KR.out.below hB8 (Nat.le_refl _))
  have KX8 := hide (KX.out.below hB8 (Nat.le_refl _))
  have KL8 := hide (KL.out.below hB8 (Nat.le_refl _))
  clear hB8 s0 s1 s2 s3 s4 s5 s6 s7 s8 s9 s10 s11 s12 k0 k1 k2 k3 k4 k5 k6 k7 k8 k9 k10 k11 k12 B7 X7 S7 C7 SW7 SR7 SX7 SL7 KW KR KX KL SN KN
  have a0 : w8.cell? ⟨w.heap.size, 0, none⟩ = some (.string nm) := cell_of_block X8.out 0 _ rfl
  have a1 : w8.cell? ⟨w.heap.size, 1, none⟩ = some (.string kd) := cell_of_block X8.out 1 _ rfl
  have a2 : w8.cell? ⟨w.heap.size, 2, none⟩ = some (.string hs) := cell_of_block X8.out 2 _ rfl
  have a3 : w8.cell? ⟨w.heap.size, 3, none⟩ = some (.string pa) := cell_of_block X8.out 3 _ rfl
  have a4 : w8.cell? ⟨w.heap.size, 4, none⟩ = some (.int .u64 gen) := cell_of_block X8.out 4 _ rfl
  have a5 : w8.cell? ⟨w.heap.size, 5, none⟩ = some (.string phs) := cell_of_block X8.out 5 _ rfl
  have a6 : w8.cell? ⟨w.heap.size, 6, none⟩ = some (.int .u64 tr) := cell_of_block X8.out 6 _ rfl
  have a7 : w8.cell? ⟨w.heap.size, 7, none⟩ = some (.string ad) := cell_of_block X8.out 7 _ rfl
  have a8 : w8.cell? ⟨w.heap.size, 8, none⟩ = some (.bool cl) := cell_of_block X8.out 8 _ rfl
  have a9 : w8.cell? ⟨w.heap.size, 9, none⟩ = some (.pointer wp) := cell_of_block X8.out 9 _ rfl
  have a10 : w8.cell? ⟨w.heap.size, 10, none⟩ = some (.slice ra rn rc) := cell_of_block X8.out 10 _ rfl
  have a11 : w8.cell? ⟨w.heap.size, 11, none⟩ = some (.pointer xp) := cell_of_block X8.out 11 _ rfl
  have a12 : w8.cell? ⟨w.heap.size, 12, none⟩ = some (.pointer lp) := cell_of_block X8.out 12 _ rfl
  have k0 : w8.cell? ⟨bC, 0, none⟩ = some (.string nm) := cell_of_block C8.out 0 _ rfl
  have k1 : w8.cell? ⟨bC, 1, none⟩ = some (.string kd) := cell_of_block C8.out 1 _ rfl
  have k2 : w8.cell? ⟨bC, 2, none⟩ = some (.string hs) := cell_of_block C8.out 2 _ rfl
  have k3 : w8.cell? ⟨bC, 3, none⟩ = some (.string pa) := cell_of_block C8.out 3 _ rfl
  have k4 : w8.cell? ⟨bC, 4, none⟩ = some (.int .u64 gen) := cell_of_block C8.out 4 _ rfl
  have k5 : w8.cell? ⟨bC, 5, none⟩ = some (.string phs) := cell_of_block C8.out 5 _ rfl
  have k6 : w8.cell? ⟨bC, 6, none⟩ = some (.int .u64 tr) := cell_of_block C8.out 6 _ rfl
  have k7 : w8.cell? ⟨bC, 7, none⟩ = some (.string ad) := cell_of_block C8.out 7 _ rfl
  have k8 : w8.cell? ⟨bC, 8, none⟩ = some (.bool cl) := cell_of_block C8.out 8 _ rfl
  have k9 : w8.cell? ⟨bC, 9, none⟩ = some (.pointer kw) := cell_of_block C8.out 9 _ rfl
  have k10 : w8.cell? ⟨bC, 10, none⟩ = some (.slice ka rn kc) := cell_of_block C8.out 10 _ rfl
  have k11 : w8.cell? ⟨bC, 11, none⟩ = some (.pointer kx) := cell_of_block C8.out 11 _ rfl
  have k12 : w8.cell? ⟨bC, 12, none⟩ = some (.pointer kl) := cell_of_block C8.out 12 _ rfl
  have hB8d : Below w.heap.size w w8.drew := B8.out.drew
  have T10 := hide (toReg10 nm kd hs pa gen phs tr ad cl wp xp lp ra rn rc wo rd xo lo w8.drew (HW.out.below hB8d (Nat.le_refl _)) (HR.out.below hB8d (Nat.le_refl _)) hrn hrm HN.out (HX.out.below hB8d (Nat.le_refl _)) (HL.out.below hB8d (Nat.le_refl _)))
  have KEEP := hide (show ∀ w', Below w8.heap.size w8.drew w' → (w'.cell? ⟨bC, 0, none⟩ = some (.string nm) ∧ w'.cell? ⟨bC, 1, none⟩ = some (.string kd) ∧ w'.cell? ⟨bC, 2, none⟩ = some (.string hs) ∧ w'.cell? ⟨bC, 3, none⟩ = some (.string pa) ∧ w'.cell? ⟨bC, 4, none⟩ = some (.int .u64 gen) ∧ w'.cell? ⟨bC, 5, none⟩ = some (.string phs) ∧ w'.cell? ⟨bC, 6, none⟩ = some (.int .u64 tr) ∧ w'.cell? ⟨bC, 7, none⟩ = some (.string ad) ∧ w'.cell? ⟨bC, 8, none⟩ = some (.bool cl) ∧ w'.cell? ⟨bC, 9, none⟩ = some (.pointer kw) ∧ w'.cell? ⟨bC, 10, none⟩ = some (.slice ka rn kc) ∧ w'.cell? ⟨bC, 11, none⟩ = some (.pointer kx) ∧ w'.cell? ⟨bC, 12, none⟩ = some (.pointer kl) ∧ w'.cell? ⟨w.heap.size, 0, none⟩ = some (.string nm) ∧ w'.cell? ⟨w.heap.size, 1, none⟩ = some (.string kd) ∧ w'.cell? ⟨w.heap.size, 2, none⟩ = some (.string hs) ∧ w'.cell? ⟨w.heap.size, 3, none⟩ = some (.string pa) ∧ w'.cell? ⟨w.heap.size, 4, none⟩ = some (.int .u64 gen) ∧ w'.cell? ⟨w.heap.size, 5, none⟩ = some (.string phs) ∧ w'.cell? ⟨w.heap.size, 6, none⟩ = some (.int .u64 tr) ∧ w'.cell? ⟨w.heap.size, 7, none⟩ = some (.string ad) ∧ w'.cell? ⟨w.heap.size, 8, none⟩ = some (.bool cl) ∧ w'.cell? ⟨w.heap.size, 9, none⟩ = some (.pointer wp) ∧ w'.cell? ⟨w.heap.size, 10, none⟩ = some (.slice ra rn rc) ∧ w'.cell? ⟨w.heap.size, 11, none⟩ = some (.pointer xp) ∧ w'.cell? ⟨w.heap.size, 12, none⟩ = some (.pointer lp)) from fun w' hB =>
    ⟨cell_below hB (Nat.le_refl _) k0, cell_below hB (Nat.le_refl _) k1, cell_below hB (Nat.le_refl _) k2, cell_below hB (Nat.le_refl _) k3, cell_below hB (Nat.le_refl _) k4, cell_below hB (Nat.le_refl _) k5, cell_below hB (Nat.le_refl _) k6, cell_below hB (Nat.le_refl _) k7, cell_below hB (Nat.le_refl _) k8, cell_below hB (Nat.le_refl _) k9, cell_below hB (Nat.le_refl _) k10, cell_below hB (Nat.le_refl _) k11, cell_below hB (Nat.le_refl _) k12, cell_below hB (Nat.le_refl _) a0, cell_below hB (Nat.le_refl _) a1, cell_below hB (Nat.le_refl _) a2, cell_below hB (Nat.le_refl _) a3, cell_below hB (Nat.le_refl _) a4, cell_below hB (Nat.le_refl _) a5, cell_below hB (Nat.le_refl _) a6, cell_below hB (Nat.le_refl _) a7, cell_below hB (Nat.le_refl _) a8, cell_below hB (Nat.le_refl _) a9, cell_below hB (Nat.le_refl _) a10, cell_below hB (Nat.le_refl _) a11, cell_below hB (Nat.le_refl _) a12⟩)
  clear hB8d HW HR HX HL HN LL
  go_wp2_with fail
  go_region_held3 (fun w' => w'.cell? ⟨bC, 0, none⟩ = some (.string nm) ∧ w'.cell? ⟨bC, 1, none⟩ = some (.string kd) ∧ w'.cell? ⟨bC, 2, none⟩ = some (.string hs) ∧ w'.cell? ⟨bC, 3, none⟩ = some (.string pa) ∧ w'.cell? ⟨bC, 4, none⟩ = some (.int .u64 gen) ∧ w'.cell? ⟨bC, 5, none⟩ = some (.string phs) ∧ w'.cell? ⟨bC, 6, none⟩ = some (.int .u64 tr) ∧ w'.cell? ⟨bC, 7, none⟩ = some (.string ad) ∧ w'.cell? ⟨bC, 8, none⟩ = some (.bool cl) ∧ w'.cell? ⟨bC, 9, none⟩ = some (.pointer kw) ∧ w'.cell? ⟨bC, 10, none⟩ = some (.slice ka rn kc) ∧ w'.cell? ⟨bC, 11, none⟩ = some (.pointer kx) ∧ w'.cell? ⟨bC, 12, none⟩ = some (.pointer kl) ∧ w'.cell? ⟨w.heap.size, 0, none⟩ = some (.string nm) ∧ w'.cell? ⟨w.heap.size, 1, none⟩ = some (.string kd) ∧ w'.cell? ⟨w.heap.size, 2, none⟩ = some (.string hs) ∧ w'.cell? ⟨w.heap.size, 3, none⟩ = some (.string pa) ∧ w'.cell? ⟨w.heap.size, 4, none⟩ = some (.int .u64 gen) ∧ w'.cell? ⟨w.heap.size, 5, none⟩ = some (.string phs) ∧ w'.cell? ⟨w.heap.size, 6, none⟩ = some (.int .u64 tr) ∧ w'.cell? ⟨w.heap.size, 7, none⟩ = some (.string ad) ∧ w'.cell? ⟨w.heap.size, 8, none⟩ = some (.bool cl) ∧ w'.cell? ⟨w.heap.size, 9, none⟩ = some (.pointer wp) ∧ w'.cell? ⟨w.heap.size, 10, none⟩ = some (.slice ra rn rc) ∧ w'.cell? ⟨w.heap.size, 11, none⟩ = some (.pointer xp) ∧ w'.cell? ⟨w.heap.size, 12, none⟩ = some (.pointer lp))
    (first | exact KEEP.out _ (Below.refl _ _) | exact KEEP.out _ hB9 | exact KEEP.out _ (hB9.trans (hBA.mono hB9.size)))
    (first | (go_at_call 10; go_must (refine (unhide T10).mono ?_; rintro e w9 ⟨tw, ta, tx, tl, rfl, tW, tR, tN, tX, tL, hB9⟩)) | (go_at_call 12; go_must (refine (equal12 nm kd hs pa gen phs tr ad cl kw kx kl tw tx tl ka ta rn kc rn wo rd xo lo w9 (KW8.out.below ((Below.refl w8.heap.size w8).drew.trans hB9) (Nat.le_refl _)) (KR8.out.below ((Below.refl w8.heap.size w8).drew.trans hB9) (Nat.le_refl _)) (KX8.out.below ((Below.refl w8.heap.size w8).drew.trans hB9) (Nat.le_refl _)) (KL8.out.below ((Below.refl w8.heap.size w8).drew.trans hB9) (Nat.le_refl _)) tW tR tX tL hrn hrm).mono ?_; rintro e w10 ⟨rfl, hBA⟩)))
  have B9 := B8.out.trans (((Below.refl w8.heap.size w8).drew.trans hB9).mono B8.out.size)
  go_wp2_with fail
  go_ret
  exact ⟨rfl, B9.trans (hBA.mono B9.size)⟩
end Go.Proofs.Qxb6002694a

/-
  resourceSizeOK (9).
-/
import Derived.Test.Qxb6002694aTrBase
namespace Go.Proofs.Qxb6002694a
open Go Go.RowKit
set_option maxRecDepth 100000
attribute [local go_sem ↓] Go.wp_at_zero Go.wp_at_succ

/-- The strings' lengths. -/
structure Lens (nm kd hs pa phs ad : ByteArray) (wo : Option HoldD) (rd : List HoldD) (xo : Option RunD) (lo : Option EndD) : Prop where
  nm : nm.size ≤ maxLen
  kd : kd.size ≤ maxLen
  hs : hs.size ≤ maxLen
  pa : pa.size ≤ maxLen
  phs : phs.size ≤ maxLen
  ad : ad.size ≤ maxLen
  wo : ∀ h, wo = some h → h.1.size ≤ maxLen
  rd : ∀ j (h : j < rd.length), rd[j].1.size ≤ maxLen
  xo : ∀ h, xo = some h → h.1.size ≤ maxLen
  lo : ∀ h, lo = some h → h.1.size ≤ maxLen ∧ h.2.2.1.size ≤ maxLen ∧ h.2.2.2.2.size ≤ maxLen

theorem add24z (n : Nat) (w : World) (hn : n ≤ maxLen) : Calls Try.prog 24 #[.int .i64 0, .int .i64 n] w fun e w' => Bnd e ∧ w' = w := add24 0 n w (by omega) hn

set_option maxHeartbeats 4000000 in
theorem size9 (nm kd hs pa : ByteArray) (gen : Int) (phs : ByteArray) (tr : Int) (ad : ByteArray) (cl : Bool) (wp xp lp : Option Addr) (ra : Option Addr) (rn rc : Nat) (wo : Option HoldD) (rd : List HoldD) (xo : Option RunD) (lo : Option EndD) (w : World)
    (hw : HoldP w (.pointer wp) wo) (hr : Rds w ra rd) (hrn : rd.length = rn) (hx : RunP w (.pointer xp) xo) (hl : EndP w (.pointer lp) lo) (hL : Lens nm kd hs pa phs ad wo rd xo lo) :
    Calls Try.prog 9 #[.agg #[.string nm, .string kd, .string hs, .string pa, .int .u64 gen, .string phs, .int .u64 tr, .string ad, .bool cl, .pointer wp, .slice ra rn rc, .pointer xp, .pointer lp]] w fun e w' => Says e ((rn : Int) ≤ 65536) ∧ Below w.heap.size w w' := by
  have HW := hide hw
  have HR := hide hr
  have HX := hide hx
  have HL := hide hl
  have LL := hide hL
  clear hw hr hx hl hL
  go_enter Try.func9, Try.ntmps9
  go_upto_region 1 with fail
  have hBx : Below w.heap.size w (w.alloc (.cells #[.string nm, .string kd, .string hs, .string pa, .int .u64 gen, .string phs, .int .u64 tr, .string ad, .bool cl, .pointer wp, .slice ra rn rc, .pointer xp, .pointer lp] 28)) := (Below.refl w.heap.size w).alloc (Nat.le_refl _) _
  have HBX := hide hBx
  clear hBx
  have BX := hide (MapKept.heap_alloc w (.cells #[.string nm, .string kd, .string hs, .string pa, .int .u64 gen, .string phs, .int .u64 tr, .string ad, .bool cl, .pointer wp, .slice ra rn rc, .pointer xp, .pointer lp] 28)).1
  generalize (w.alloc _ : World) = w1 at *
  have c10 : w1.cell? ⟨w.heap.size, 10, none⟩ = some (.slice ra rn rc) := cell_of_block BX.out 10 _ rfl
  by_cases hn1 : (65536 : Int) < (rn : Int)
  · go_wp2_with fail
    go_ret
    exact ⟨Says.no, HBX.out⟩
  · have c0 : w1.cell? ⟨w.heap.size, 0, none⟩ = some (.string nm) := cell_of_block BX.out 0 _ rfl
    have c1 : w1.cell? ⟨w.heap.size, 1, none⟩ = some (.string kd) := cell_of_block BX.out 1 _ rfl
    have c2 : w1.cell? ⟨w.heap.size, 2, none⟩ = some (.string hs) := cell_of_block BX.out 2 _ rfl
    have c3 : w1.cell? ⟨w.heap.size, 3, none⟩ = some (.string pa) := cell_of_block BX.out 3 _ rfl
    have c5 : w1.cell? ⟨w.heap.size, 5, none⟩ = some (.string phs) := cell_of_block BX.out 5 _ rfl
    have c7 : w1.cell? ⟨w.heap.size, 7, none⟩ = some (.string ad) := cell_of_block BX.out 7 _ rfl
    have c9 : w1.cell? ⟨w.heap.size, 9, none⟩ = some (.pointer wp) := cell_of_block BX.out 9 _ rfl
    go_wp2_with fail
    refine (add24z nm.size w1 LL.out.nm).mono ?_
    rintro e wa ⟨⟨t0, rfl, ht0⟩, hw⟩; rw [hw]; clear hw
    go_wp2_with fail
    refine (add24 t0 kd.size w1 (by omega) LL.out.kd).mono ?_
    rintro e wa ⟨⟨t1, rfl, ht1⟩, hw⟩; rw [hw]; clear hw
    go_wp2_with fail
    refine (add24 t1 hs.size w1 (by omega) LL.out.hs).mono ?_
    rintro e wa ⟨⟨t2, rfl, ht2⟩, hw⟩; rw [hw]; clear hw
    go_wp2_with fail
    refine (add24 t2 pa.size w1 (by omega) LL.out.pa).mono ?_
    rintro e wa ⟨⟨t3, rfl, ht3⟩, hw⟩; rw [hw]; clear hw
    go_wp2_with fail
    refine (add24 t3 phs.size w1 (by omega) LL.out.phs).mono ?_
    rintro e wa ⟨⟨t4, rfl, ht4⟩, hw⟩; rw [hw]; clear hw
    go_wp2_with fail
    refine (add24 t4 ad.size w1 (by omega) LL.out.ad).mono ?_
    rintro e wa ⟨⟨t5, rfl, ht5⟩, hw⟩; rw [hw]; clear hw
    clear c0 c1 c2 c3 c5 c7 ht0 ht1 ht2 ht3 ht4
    go_upto_if 41 with fail
    go_cut [3] (fun z wd => wd = w1 ∧ ∃ zz : Nat, z = .int .i64 zz ∧ (zz : Int) ≤ 2097152)
    case first =>
      cases wo with
      | none =>
        have hwp : wp = none := by have h := HW.out; simpa [HoldP] using h
        subst hwp
        go_wp2_with fail
        go_meet
        case rel => exact ⟨rfl, t5, rfl, by omega⟩
      | some h =>
        obtain ⟨b, o, hp, hA⟩ := HW.out
        simp only [Value.pointer.injEq] at hp
        subst hp
        have p0 := (hA.below HBX.out (Nat.le_refl _)).1
        have hz := LL.out.wo h rfl
        clear hA
        go_wp2_with fail
        refine (add24 t5 h.1.size w1 (by omega) hz).mono ?_
        rintro e wa ⟨⟨t6, rfl, ht6⟩, hw⟩; rw [hw]; clear hw
        go_wp2_with fail
        go_meet
        case rel => exact ⟨rfl, t6, rfl, by omega⟩
    case rest =>
    obtain ⟨hwc, zz, rfl, hzz⟩ := hcut
    rw [hwc]
    clear hwc wc ht5 t5 t4 t3 t2 t1 t0 c9 HW
    go_wp2_with fail
    go_loop [3, 4] (fun z i => ∃ j zz : Nat, j ≤ rn ∧ i = .int .i64 j ∧ z = .int .i64 zz ∧ (zz : Int) ≤ 2097152) (fun _ i => rn - (intOf i).toNat)
    case atStart => exact ⟨0, zz, Nat.zero_le _, rfl, rfl, hzz⟩
    case round =>
    clear hzz zz
    obtain ⟨j, zz, hj, rfl, rfl, hzl⟩ := hrel
    by_cases hlt : (j : Int) < (rn : Int)
    · have hj' : j < rd.length := by omega
      obtain ⟨b, o, hra, hI⟩ : ∃ b o, ra = some ⟨b, o, none⟩ ∧ ∀ j (h : j < rd.length), HoldA w b (o + j * 3) rd[j] := by
        rcases HR.out with h0 | h
        · subst h0; simp at hj'
        · exact h
      subst hra
      have p0 := ((hI j hj').below HBX.out (Nat.le_refl _)).1
      have hz := LL.out.rd j hj'
      clear hI
      generalize rd[j] = x at *
      go_wp2_with fail
      refine (add24 zz 40 w1 hzl (by unfold maxLen; omega)).mono ?_
      rintro e wa ⟨⟨t6, rfl, ht6⟩, hw⟩; rw [hw]; clear hw
      go_wp2_with fail
      refine (add24 t6 x.1.size w1 (by omega) hz).mono ?_
      rintro e wa ⟨⟨t7, rfl, ht7⟩, hw⟩; rw [hw]; clear hw
      go_wp2_with fail
      go_round
      case rel => exact ⟨j + 1, t7, by omega, by go_num, rfl, by omega⟩
      case measure => simp [intOf]; omega
    · have c11 : w1.cell? ⟨w.heap.size, 11, none⟩ = some (.pointer xp) := cell_of_block BX.out 11 _ rfl
      clear HR
      go_upto_if 70 with fail
      go_cut [3] (fun z wd => wd = w1 ∧ ∃ zz : Nat, z = .int .i64 zz ∧ (zz : Int) ≤ 2097152)
      case first =>
        cases xo with
        | none =>
          have hwp : xp = none := by have h := HX.out; simpa [RunP] using h
          subst hwp
          go_wp2_with fail
          go_meet
          case rel => exact ⟨rfl, zz, rfl, by omega⟩
        | some h =>
          obtain ⟨b, o, hp, r0, _⟩ := HX.out
          simp only [Value.pointer.injEq] at hp
          subst hp
          have p0 := cell_below HBX.out (Nat.le_refl _) r0
          have hz := LL.out.xo h rfl
          clear r0
          go_wp2_with fail
          refine (add24 zz h.1.size w1 (by omega) hz).mono ?_
          rintro e wa ⟨⟨t6, rfl, ht6⟩, hw⟩; rw [hw]; clear hw
          go_wp2_with fail
          go_meet
          case rel => exact ⟨rfl, t6, rfl, by omega⟩
      case rest =>
      clear hzl
      obtain ⟨hwc, z2, rfl, hzz⟩ := hcut
      rw [hwc]
      clear hwc wc c11 HX
      have c12 : w1.cell? ⟨w.heap.size, 12, none⟩ = some (.pointer lp) := cell_of_block BX.out 12 _ rfl
      go_upto_if 81 with fail
      go_cut [3] (fun z wd => wd = w1 ∧ ∃ zz : Nat, z = .int .i64 zz ∧ (zz : Int) ≤ 2097152)
      case first =>
        cases lo with
        | none =>
          have hwp : lp = none := by have h := HL.out; simpa [EndP] using h
          subst hwp
          go_wp2_with fail
          go_meet
          case rel => exact ⟨rfl, z2, rfl, by omega⟩
        | some h =>
          obtain ⟨b, o, hp, r0, _, r2, _, r4⟩ := HL.out
          simp only [Value.pointer.injEq] at hp
          subst hp
          obtain ⟨hc, he, hr, hq, ho⟩ := h
          have p0 := cell_below HBX.out (Nat.le_refl _) r0
          have p2 := cell_below HBX.out (Nat.le_refl _) r2
          have p4 := cell_below HBX.out (Nat.le_refl _) r4
          obtain ⟨s0, s2, s4⟩ := LL.out.lo _ rfl
          simp only at p0 p2 p4 s0 s2 s4
          clear r0 r2 r4
          go_wp2_with fail
          refine (add24 z2 hc.size w1 (by omega) s0).mono ?_
          rintro e wa ⟨⟨t6, rfl, ht6⟩, hw⟩; rw [hw]; clear hw
          go_wp2_with fail
          refine (add24 t6 hr.size w1 (by omega) s2).mono ?_
          rintro e wa ⟨⟨t7, rfl, ht7⟩, hw⟩; rw [hw]; clear hw
          go_wp2_with fail
          refine (add24 t7 ho.size w1 (by omega) s4).mono ?_
          rintro e wa ⟨⟨t8, rfl, ht8⟩, hw⟩; rw [hw]; clear hw
          go_wp2_with fail
          go_meet
          case rel => exact ⟨rfl, t8, rfl, by omega⟩
      case rest =>
      clear hzz
      obtain ⟨hwc, z3, rfl, hzz⟩ := hcut
      rw [hwc]
      go_wp2_with fail
      go_ret
      exact ⟨⟨_, rfl, fun _ => by omega⟩, HBX.out⟩
end Go.Proofs.Qxb6002694a

/-
  zzBytes_FnCloneReadsAsOriginal (8).
-/
import Derived.Test.Qxb6002694aSize
namespace Go.Proofs.Qxb6002694a
open Go Go.RowKit
set_option maxRecDepth 100000
attribute [local go_sem ↓] Go.wp_at_zero Go.wp_at_succ

set_option maxHeartbeats 4000000 in
theorem bytes8 (nm kd hs pa : ByteArray) (gen : Int) (phs : ByteArray) (tr : Int) (ad : ByteArray) (cl : Bool) (wp xp lp : Option Addr) (ra : Option Addr) (rn rc : Nat) (wo : Option HoldD) (rd : List HoldD) (xo : Option RunD) (lo : Option EndD) (w : World)
    (hw : HoldP w (.pointer wp) wo) (hr : Rds w ra rd) (hrn : rd.length = rn) (hx : RunP w (.pointer xp) xo) (hl : EndP w (.pointer lp) lo) (hL : Lens nm kd hs pa phs ad wo rd xo lo) :
    Calls Try.prog 8 #[.agg #[.string nm, .string kd, .string hs, .string pa, .int .u64 gen, .string phs, .int .u64 tr, .string ad, .bool cl, .pointer wp, .slice ra rn rc, .pointer xp, .pointer lp]] w fun e w' => Says e True ∧ Below w.heap.size w w' := by
  have HW := hide hw
  have HR := hide hr
  have HX := hide hx
  have HL := hide hl
  have LL := hide hL
  clear hw hr hx hl hL
  go_enter Try.func8, Try.ntmps8
  go_upto_region 2 with fail
  have hBx : Below w.heap.size w (w.alloc (.cells #[.string nm, .string kd, .string hs, .string pa, .int .u64 gen, .string phs, .int .u64 tr, .string ad, .bool cl, .pointer wp, .slice ra rn rc, .pointer xp, .pointer lp] 28)) := (Below.refl w.heap.size w).alloc (Nat.le_refl _) _
  have HBX := hide hBx
  clear hBx
  have BX := hide (MapKept.heap_alloc w (.cells #[.string nm, .string kd, .string hs, .string pa, .int .u64 gen, .string phs, .int .u64 tr, .string ad, .bool cl, .pointer wp, .slice ra rn rc, .pointer xp, .pointer lp] 28)).1
  generalize (w.alloc _ : World) = w1 at *
  have c0 : w1.cell? ⟨w.heap.size, 0, none⟩ = some (.string nm) := cell_of_block BX.out 0 _ rfl
  by_cases ha0 : (nm.size : Int) ≤ 1048576
  case neg =>
    as_aux_lemma =>
    go_wp2_with fail
    go_ret
    exact ⟨Says.no, HBX.out⟩
  go_upto_region 7 with fail
  clear c0
  have c1 : w1.cell? ⟨w.heap.size, 1, none⟩ = some (.string kd) := cell_of_block BX.out 1 _ rfl
  by_cases ha1 : (kd.size : Int) ≤ 1048576
  case neg =>
    as_aux_lemma =>
    go_wp2_with fail
    go_ret
    exact ⟨Says.no, HBX.out⟩
  by_cases hb1 : (nm.size : Int) + (kd.size : Int) ≤ 1048576
  case neg =>
    as_aux_lemma =>
    go_wp2_with fail
    go_ret
    exact ⟨Says.no, HBX.out⟩
  go_upto_region 12 with fail
  clear c1
  have c2 : w1.cell? ⟨w.heap.size, 2, none⟩ = some (.string hs) := cell_of_block BX.out 2 _ rfl
  by_cases ha2 : (hs.size : Int) ≤ 1048576
  case neg =>
    as_aux_lemma =>
    go_wp2_with fail
    go_ret
    exact ⟨Says.no, HBX.out⟩
  by_cases hb2 : (nm.size : Int) + (kd.size : Int) + (hs.size : Int) ≤ 1048576
  case neg =>
    as_aux_lemma =>
    go_wp2_with fail
    go_ret
    exact ⟨Says.no, HBX.out⟩
  go_upto_region 17 with fail
  clear c2
  have c3 : w1.cell? ⟨w.heap.size, 3, none⟩ = some (.string pa) := cell_of_block BX.out 3 _ rfl
  by_cases ha3 : (pa.size : Int) ≤ 1048576
  case neg =>
    as_aux_lemma =>
    go_wp2_with fail
    go_ret
    exact ⟨Says.no, HBX.out⟩
  by_cases hb3 : (nm.size : Int) + (kd.size : Int) + (hs.size : Int) + (pa.size : Int) ≤ 1048576
  case neg =>
    as_aux_lemma =>
    go_wp2_with fail
    go_ret
    exact ⟨Says.no, HBX.out⟩
  go_upto_region 22 with fail
  clear c3
  have c5 : w1.cell? ⟨w.heap.size, 5, none⟩ = some (.string phs) := cell_of_block BX.out 5 _ rfl
  by_cases ha4 : (phs.size : Int) ≤ 1048576
  case neg =>
    as_aux_lemma =>
    go_wp2_with fail
    go_ret
    exact ⟨Says.no, HBX.out⟩
  by_cases hb4 : (nm.size : Int) + (kd.size : Int) + (hs.size : Int) + (pa.size : Int) + (phs.size : Int) ≤ 1048576
  case neg =>
    as_aux_lemma =>
    go_wp2_with fail
    go_ret
    exact ⟨Says.no, HBX.out⟩
  go_upto_region 27 with fail
  clear c5
  have c7 : w1.cell? ⟨w.heap.size, 7, none⟩ = some (.string ad) := cell_of_block BX.out 7 _ rfl
  by_cases ha5 : (ad.size : Int) ≤ 1048576
  case neg =>
    as_aux_lemma =>
    go_wp2_with fail
    go_ret
    exact ⟨Says.no, HBX.out⟩
  by_cases hb5 : (nm.size : Int) + (kd.size : Int) + (hs.size : Int) + (pa.size : Int) + (phs.size : Int) + (ad.size : Int) ≤ 1048576
  case neg =>
    as_aux_lemma =>
    go_wp2_with fail
    go_ret
    exact ⟨Says.no, HBX.out⟩
  go_upto_region 32 with fail
  clear c7
  have c9 : w1.cell? ⟨w.heap.size, 9, none⟩ = some (.pointer wp) := cell_of_block BX.out 9 _ rfl
  go_upto_if 73 with fail
  go_cut [3] (fun z wd => wd = w1 ∧ ∃ zz : Nat, z = .int .i64 zz ∧ (zz : Int) ≤ 1048576)
  case first =>
    as_aux_lemma =>
    cases wo with
    | none =>
      have hwp : wp = none := by have h := HW.out; simpa [HoldP] using h
      subst hwp
      go_wp2_with fail
      go_meet
      case rel => exact ⟨rfl, nm.size + kd.size + hs.size + pa.size + phs.size + ad.size, by go_num, by omega⟩
    | some h =>
      obtain ⟨b, o, hp, hA⟩ := HW.out
      simp only [Value.pointer.injEq] at hp
      subst hp
      have p0 := (hA.below HBX.out (Nat.le_refl _)).1
      clear hA
      generalize h.1 = s at *
      clear ha0 ha1 ha2 ha3 ha4 ha5 hb1 hb2 hb3 hb4
      obtain ⟨zz, hzz⟩ : ∃ zz : Nat, (zz : Int) = (nm.size : Int) + (kd.size : Int) + (hs.size : Int) + (pa.size : Int) + (phs.size : Int) + (ad.size : Int) := ⟨nm.size + kd.size + hs.size + pa.size + phs.size + ad.size, by omega⟩
      rw [← hzz] at hb5 ⊢
      by_cases hs0 : (s.size : Int) ≤ 1048576
      case neg =>
        as_aux_lemma =>
        go_wp2_with fail
        go_ret
        exact ⟨Says.no, HBX.out⟩
      by_cases hs1 : (zz : Int) + (s.size : Int) ≤ 1048576
      case neg =>
        as_aux_lemma =>
        go_wp2_with fail
        go_ret
        exact ⟨Says.no, HBX.out⟩
      go_wp2_with fail
      go_meet
      case rel => exact ⟨rfl, zz + s.size, by go_num, by omega⟩
  case rest =>
  clear ha0 ha1 ha2 ha3 ha4 ha5 hb1 hb2 hb3 hb4 hb5
  obtain ⟨hwc, zz, rfl, hzz⟩ := hcut
  rw [hwc]
  clear hwc wc c9 HW
  have c10 : w1.cell? ⟨w.heap.size, 10, none⟩ = some (.slice ra rn rc) := cell_of_block BX.out 10 _ rfl
  by_cases hr0 : (rn : Int) ≤ 1048576
  case neg =>
    as_aux_lemma =>
    go_wp2_with fail
    go_ret
    exact ⟨Says.no, HBX.out⟩
  by_cases hr1 : (zz : Int) + (rn : Int) ≤ 1048576
  case neg =>
    as_aux_lemma =>
    go_wp2_with fail
    go_ret
    exact ⟨Says.no, HBX.out⟩
  go_wp2_with fail
  go_loop [3, 4] (fun z i => ∃ j zz : Nat, j ≤ rn ∧ i = .int .i64 j ∧ z = .int .i64 zz ∧ (zz : Int) ≤ 1048576) (fun _ i => rn - (intOf i).toNat)
  case atStart => exact ⟨0, zz + rn, Nat.zero_le _, rfl, by go_num, by omega⟩
  case round =>
  clear hr1 hzz
  obtain ⟨j, zz, hj, rfl, rfl, hzl⟩ := hrel
  by_cases hlt : (j : Int) < (rn : Int)
  · have hj' : j < rd.length := by omega
    obtain ⟨b, o, hra, hI⟩ : ∃ b o, ra = some ⟨b, o, none⟩ ∧ ∀ j (h : j < rd.length), HoldA w b (o + j * 3) rd[j] := by
      rcases HR.out with h0 | h
      · subst h0; simp at hj'
      · exact h
    subst hra
    have p0 := ((hI j hj').below HBX.out (Nat.le_refl _)).1
    clear hI
    generalize rd[j].1 = s at *
    by_cases hs0 : (s.size : Int) ≤ 1048576
    case neg =>
      as_aux_lemma =>
      go_wp2_with fail
      go_ret
      exact ⟨Says.no, HBX.out⟩
    by_cases hs1 : (zz : Int) + (s.size : Int) ≤ 1048576
    case neg =>
      as_aux_lemma =>
      go_wp2_with fail
      go_ret
      exact ⟨Says.no, HBX.out⟩
    go_wp2_with fail
    go_round
    case rel => exact ⟨j + 1, zz + s.size, by omega, by go_num, by go_num, by omega⟩
    case measure => simp [intOf]; omega
  · have c11 : w1.cell? ⟨w.heap.size, 11, none⟩ = some (.pointer xp) := cell_of_block BX.out 11 _ rfl
    clear HR
    go_upto_if 130 with fail
    go_cut [3] (fun z wd => wd = w1 ∧ ∃ zz : Nat, z = .int .i64 zz ∧ (zz : Int) ≤ 1048576)
    case first =>
      as_aux_lemma =>
      cases xo with
      | none =>
        have hwp : xp = none := by have h := HX.out; simpa [RunP] using h
        subst hwp
        go_wp2_with fail
        go_meet
        case rel => exact ⟨rfl, zz, rfl, by omega⟩
      | some h =>
        obtain ⟨b, o, hp, r0, _⟩ := HX.out
        simp only [Value.pointer.injEq] at hp
        subst hp
        have p0 := cell_below HBX.out (Nat.le_refl _) r0
        clear r0
        generalize h.1 = s at *
        by_cases hs0 : (s.size : Int) ≤ 1048576
        case neg =>
          as_aux_lemma =>
          go_wp2_with fail
          go_ret
          exact ⟨Says.no, HBX.out⟩
        by_cases hs1 : (zz : Int) + (s.size : Int) ≤ 1048576
        case neg =>
          as_aux_lemma =>
          go_wp2_with fail
          go_ret
          exact ⟨Says.no, HBX.out⟩
        go_wp2_with fail
        go_meet
        case rel => exact ⟨rfl, zz + s.size, by go_num, by omega⟩
    case rest =>
    clear hzl
    obtain ⟨hwc, z2, rfl, hzz⟩ := hcut
    rw [hwc]
    clear hwc wc c11 HX
    have c12 : w1.cell? ⟨w.heap.size, 12, none⟩ = some (.pointer lp) := cell_of_block BX.out 12 _ rfl
    go_upto_if 150 with fail
    go_cut [3] (fun z wd => wd = w1)
    case first =>
      as_aux_lemma =>
      cases lo with
      | none =>
        have hwp : lp = none := by have h := HL.out; simpa [EndP] using h
        subst hwp
        go_wp2_with fail
        go_meet
        case rel => rfl
      | some h =>
        obtain ⟨b, o, hp, r0, _, r2, _, r4⟩ := HL.out
        simp only [Value.pointer.injEq] at hp
        subst hp
        obtain ⟨s, he, t, hq, u⟩ := h
        have p0 := cell_below HBX.out (Nat.le_refl _) r0
        have p2 := cell_below HBX.out (Nat.le_refl _) r2
        have p4 := cell_below HBX.out (Nat.le_refl _) r4
        simp only at p0 p2 p4
        clear r0 r2 r4
        by_cases hs0 : (s.size : Int) ≤ 1048576
        case neg =>
          as_aux_lemma =>
          go_wp2_with fail
          go_ret
          exact ⟨Says.no, HBX.out⟩
        by_cases hs1 : (z2 : Int) + (s.size : Int) ≤ 1048576
        case neg =>
          as_aux_lemma =>
          go_wp2_with fail
          go_ret
          exact ⟨Says.no, HBX.out⟩
        go_upto_region 63 with fail
        by_cases ht0 : (t.size : Int) ≤ 1048576
        case neg =>
          as_aux_lemma =>
          go_wp2_with fail
          go_ret
          exact ⟨Says.no, HBX.out⟩
        by_cases ht1 : (z2 : Int) + (s.size : Int) + (t.size : Int) ≤ 1048576
        case neg =>
          as_aux_lemma =>
          go_wp2_with fail
          go_ret
          exact ⟨Says.no, HBX.out⟩
        go_upto_region 68 with fail
        by_cases hu0 : (u.size : Int) ≤ 1048576
        case neg =>
          as_aux_lemma =>
          go_wp2_with fail
          go_ret
          exact ⟨Says.no, HBX.out⟩
        by_cases hu1 : (z2 : Int) + (s.size : Int) + (t.size : Int) + (u.size : Int) ≤ 1048576
        case neg =>
          as_aux_lemma =>
          go_wp2_with fail
          go_ret
          exact ⟨Says.no, HBX.out⟩
        go_wp2_with fail
        go_meet
        case rel => rfl
    case rest =>
    rw [show wc = w1 from hcut]
    go_wp2_with fail
    go_ret
    exact ⟨Says.yes trivial, HBX.out⟩
end Go.Proofs.Qxb6002694a

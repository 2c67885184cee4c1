/-
  equalResource (12).
-/
import Derived.Test.Qxb6002694aClBase
namespace Go.Proofs.Qxb6002694a
open Go Go.RowKit
set_option maxRecDepth 100000
attribute [local go_sem ↓] Go.wp_at_zero Go.wp_at_succ

/-- What equalResource holds between its steps. -/
structure EQ (w wd : World) (ca cb : Array Value) : Prop where
  ba : wd.heap[w.heap.size]? = some (.cells ca 35 (0, 0))
  bb : wd.heap[w.heap.size + 1]? = some (.cells cb 35 (0, 0))
  b : Below w.heap.size w wd
theorem EQ.lt {w wd : World} {ca cb : Array Value} (h : EQ w wd ca cb) : w.heap.size + 1 < wd.heap.size := (Array.getElem?_eq_some_iff.1 h.bb).1
theorem EQ.below {w wd w2 : World} {ca cb : Array Value} (h : EQ w wd ca cb) (hB : Below wd.heap.size wd w2) : EQ w w2 ca cb := by
  have h1 := h.lt
  exact ⟨(hB.block _ (by omega)).trans h.ba, (hB.block _ (by omega)).trans h.bb, h.b.trans (hB.mono h.b.size)⟩

set_option maxHeartbeats 4000000 in
theorem equal12 (nm kd hs pa : ByteArray) (gen : Int) (phs : ByteArray) (tr : Int) (ad : ByteArray) (cl : Bool) (wp xp lp wq xq lq : Option Addr) (ra rb : Option Addr) (rn rc rd2 : Nat) (wo : Option HoldD) (rd : List HoldD) (xo : Option RunD) (lo : Option EndD) (w : World)
    (hw : HoldP w (.pointer wp) wo) (hr : Rds w ra rd) (hx : RunP w (.pointer xp) xo) (hl : EndP w (.pointer lp) lo)
    (hwq : HoldP w (.pointer wq) wo) (hrq : Rds w rb rd) (hxq : RunP w (.pointer xq) xo) (hlq : EndP w (.pointer lq) lo) (hrn : rd.length = rn) (hrm : (rn : Int) ≤ 65536) :
    Calls Try.prog 12 #[.agg #[.string nm, .string kd, .string hs, .string pa, .int .u64 gen, .string phs, .int .u64 tr, .string ad, .bool cl, .pointer wp, .slice ra rn rc, .pointer xp, .pointer lp], .agg #[.string nm, .string kd, .string hs, .string pa, .int .u64 gen, .string phs, .int .u64 tr, .string ad, .bool cl, .pointer wq, .slice rb rn rd2, .pointer xq, .pointer lq]] w fun e w' => e = .returned (.bool true) ∧ Below w.heap.size w w' := by
  have HW := hide hw
  have HR := hide hr
  have HX := hide hx
  have HL := hide hl
  have HWQ := hide hwq
  have HRQ := hide hrq
  have HXQ := hide hxq
  have HLQ := hide hlq
  clear hw hr hx hl hwq hrq hxq hlq
  have n0 : (nm.toList == nm.toList) = true := by simp
  have n1 : (kd.toList == kd.toList) = true := by simp
  have n2 : (hs.toList == hs.toList) = true := by simp
  have n3 : (pa.toList == pa.toList) = true := by simp
  have n4 : (gen == gen) = true := by simp
  have n5 : (phs.toList == phs.toList) = true := by simp
  have n6 : (tr == tr) = true := by simp
  have n7 : (ad.toList == ad.toList) = true := by simp
  have n8 : (cl == cl) = true := by simp
  go_enter Try.func12, Try.ntmps12
  go_upto_region 1 with fail
  have T0 : EQ w ((w.alloc (.cells #[.string nm, .string kd, .string hs, .string pa, .int .u64 gen, .string phs, .int .u64 tr, .string ad, .bool cl, .pointer wp, .slice ra rn rc, .pointer xp, .pointer lp] 35)).alloc (.cells #[.string nm, .string kd, .string hs, .string pa, .int .u64 gen, .string phs, .int .u64 tr, .string ad, .bool cl, .pointer wq, .slice rb rn rd2, .pointer xq, .pointer lq] 35)) #[.string nm, .string kd, .string hs, .string pa, .int .u64 gen, .string phs, .int .u64 tr, .string ad, .bool cl, .pointer wp, .slice ra rn rc, .pointer xp, .pointer lp] #[.string nm, .string kd, .string hs, .string pa, .int .u64 gen, .string phs, .int .u64 tr, .string ad, .bool cl, .pointer wq, .slice rb rn rd2, .pointer xq, .pointer lq] := by
    refine ⟨?_, ?_, ((Below.refl w.heap.size w).alloc (Nat.le_refl _) _).alloc (by simp) _⟩
    · rw [Below.heap_alloc _ _ _ (by simp)]; exact (MapKept.heap_alloc w _).1
    · simpa using (MapKept.heap_alloc (w.alloc (.cells #[.string nm, .string kd, .string hs, .string pa, .int .u64 gen, .string phs, .int .u64 tr, .string ad, .bool cl, .pointer wp, .slice ra rn rc, .pointer xp, .pointer lp] 35)) _).1
  have HT0 := hide T0
  clear T0
  generalize ((w.alloc _).alloc _ : World) = w1 at *
  have a0 : w1.cell? ⟨w.heap.size, 0, none⟩ = some (.string nm) := cell_of_block HT0.out.ba 0 _ rfl
  have b0 : w1.cell? ⟨w.heap.size + 1, 0, none⟩ = some (.string nm) := cell_of_block HT0.out.bb 0 _ rfl
  have a1 : w1.cell? ⟨w.heap.size, 1, none⟩ = some (.string kd) := cell_of_block HT0.out.ba 1 _ rfl
  have b1 : w1.cell? ⟨w.heap.size + 1, 1, none⟩ = some (.string kd) := cell_of_block HT0.out.bb 1 _ rfl
  have a2 : w1.cell? ⟨w.heap.size, 2, none⟩ = some (.string hs) := cell_of_block HT0.out.ba 2 _ rfl
  have b2 : w1.cell? ⟨w.heap.size + 1, 2, none⟩ = some (.string hs) := cell_of_block HT0.out.bb 2 _ rfl
  have a3 : w1.cell? ⟨w.heap.size, 3, none⟩ = some (.string pa) := cell_of_block HT0.out.ba 3 _ rfl
  have b3 : w1.cell? ⟨w.heap.size + 1, 3, none⟩ = some (.string pa) := cell_of_block HT0.out.bb 3 _ rfl
  have a4 : w1.cell? ⟨w.heap.size, 4, none⟩ = some (.int .u64 gen) := cell_of_block HT0.out.ba 4 _ rfl
  have b4 : w1.cell? ⟨w.heap.size + 1, 4, none⟩ = some (.int .u64 gen) := cell_of_block HT0.out.bb 4 _ rfl
  have a5 : w1.cell? ⟨w.heap.size, 5, none⟩ = some (.string phs) := cell_of_block HT0.out.ba 5 _ rfl
  have b5 : w1.cell? ⟨w.heap.size + 1, 5, none⟩ = some (.string phs) := cell_of_block HT0.out.bb 5 _ rfl
  have a6 : w1.cell? ⟨w.heap.size, 6, none⟩ = some (.int .u64 tr) := cell_of_block HT0.out.ba 6 _ rfl
  have b6 : w1.cell? ⟨w.heap.size + 1, 6, none⟩ = some (.int .u64 tr) := cell_of_block HT0.out.bb 6 _ rfl
  have a7 : w1.cell? ⟨w.heap.size, 7, none⟩ = some (.string ad) := cell_of_block HT0.out.ba 7 _ rfl
  have b7 : w1.cell? ⟨w.heap.size + 1, 7, none⟩ = some (.string ad) := cell_of_block HT0.out.bb 7 _ rfl
  have a8 : w1.cell? ⟨w.heap.size, 8, none⟩ = some (.bool cl) := cell_of_block HT0.out.ba 8 _ rfl
  have b8 : w1.cell? ⟨w.heap.size + 1, 8, none⟩ = some (.bool cl) := cell_of_block HT0.out.bb 8 _ rfl
  go_upto_region 7 with fail
  clear a0 a1 a2 a3 a4 a5 a6 a7 a8 b0 b1 b2 b3 b4 b5 b6 b7 b8 n0 n1 n2 n3 n4 n5 n6 n7 n8
  have a9 : w1.cell? ⟨w.heap.size, 9, none⟩ = some (.pointer wp) := cell_of_block HT0.out.ba 9 _ rfl
  have b9 : w1.cell? ⟨w.heap.size + 1, 9, none⟩ = some (.pointer wq) := cell_of_block HT0.out.bb 9 _ rfl
  go_cut [69] (fun c wd => c = .bool false ∧ wd = w1)
  case first =>
    as_aux_lemma =>
    cases wo with
    | none =>
      have hwp : wp = none := by have h := HW.out; simpa [HoldP] using h
      have hwq : wq = none := by have h := HWQ.out; simpa [HoldP] using h
      subst hwp hwq
      go_wp2_with fail
      go_meet
      case rel => exact ⟨rfl, rfl⟩
    | some h =>
      obtain ⟨b, o, hp, _⟩ := HW.out
      obtain ⟨bq, oq, hpq, _⟩ := HWQ.out
      simp only [Value.pointer.injEq] at hp hpq
      subst hp hpq
      go_wp2_with fail
      go_meet
      case rel => exact ⟨rfl, rfl⟩
  case rest =>
  obtain ⟨rfl, hwc⟩ := hcut
  rw [hwc]
  clear hwc wc
  go_upto_region 9 with fail
  go_cut [84] (fun c wd => c = .bool false ∧ Hid (EQ w wd #[.string nm, .string kd, .string hs, .string pa, .int .u64 gen, .string phs, .int .u64 tr, .string ad, .bool cl, .pointer wp, .slice ra rn rc, .pointer xp, .pointer lp] #[.string nm, .string kd, .string hs, .string pa, .int .u64 gen, .string phs, .int .u64 tr, .string ad, .bool cl, .pointer wq, .slice rb rn rd2, .pointer xq, .pointer lq]))
  case first =>
    as_aux_lemma =>
    cases wo with
    | none =>
      have hwp : wp = none := by have h := HW.out; simpa [HoldP] using h
      have hwq : wq = none := by have h := HWQ.out; simpa [HoldP] using h
      subst hwp hwq
      go_quiet (fail)
      go_wp2_with fail
      go_meet
      case rel => exact ⟨rfl, HT0.out.below (below_drewN (Below.refl _ _) _)⟩
    | some h =>
      obtain ⟨b, o, hp, hA⟩ := HW.out
      obtain ⟨bq, oq, hpq, hAq⟩ := HWQ.out
      simp only [Value.pointer.injEq] at hp hpq
      subst hp hpq
      obtain ⟨hc, he, ht⟩ := h
      obtain ⟨p0, p1, p2⟩ := hA.below HT0.out.b (Nat.le_refl _)
      obtain ⟨q0, q1, q2⟩ := hAq.below HT0.out.b (Nat.le_refl _)
      simp only at p0 p1 p2 q0 q1 q2
      clear hA hAq
      have C27 := hide (equal27 hc he ht w1.drew)
      have KEEP := hide (show ∀ w', Below w1.heap.size w1.drew w' → (w'.cell? ⟨w.heap.size, 9, none⟩ = some (.pointer (some ⟨b, o, none⟩)) ∧ w'.cell? ⟨w.heap.size + 1, 9, none⟩ = some (.pointer (some ⟨bq, oq, none⟩)) ∧ w'.cell? ⟨b, o, none⟩ = some (.string hc) ∧ w'.cell? ⟨b, o + 1, none⟩ = some (.int .u64 he) ∧ w'.cell? ⟨b, o + 2, none⟩ = some (.int .u64 ht) ∧ w'.cell? ⟨bq, oq, none⟩ = some (.string hc) ∧ w'.cell? ⟨bq, oq + 1, none⟩ = some (.int .u64 he) ∧ w'.cell? ⟨bq, oq + 2, none⟩ = some (.int .u64 ht)) from fun w' hB =>
        ⟨cell_below hB (Nat.le_refl _) a9, cell_below hB (Nat.le_refl _) b9, cell_below hB (Nat.le_refl _) p0, cell_below hB (Nat.le_refl _) p1, cell_below hB (Nat.le_refl _) p2, cell_below hB (Nat.le_refl _) q0, cell_below hB (Nat.le_refl _) q1, cell_below hB (Nat.le_refl _) q2⟩)
      go_wp2_with fail
      go_region_held3 (fun w' => w'.cell? ⟨w.heap.size, 9, none⟩ = some (.pointer (some ⟨b, o, none⟩)) ∧ w'.cell? ⟨w.heap.size + 1, 9, none⟩ = some (.pointer (some ⟨bq, oq, none⟩)) ∧ w'.cell? ⟨b, o, none⟩ = some (.string hc) ∧ w'.cell? ⟨b, o + 1, none⟩ = some (.int .u64 he) ∧ w'.cell? ⟨b, o + 2, none⟩ = some (.int .u64 ht) ∧ w'.cell? ⟨bq, oq, none⟩ = some (.string hc) ∧ w'.cell? ⟨bq, oq + 1, none⟩ = some (.int .u64 he) ∧ w'.cell? ⟨bq, oq + 2, none⟩ = some (.int .u64 ht))
        (first | exact KEEP.out _ ((Below.refl _ _)) | exact KEEP.out _ hB3)
        ((go_at_call 27; go_must (refine (unhide C27).mono ?_; rintro e w3 ⟨rfl, hB3⟩)))
      go_wp2_with fail
      go_meet
      case rel => exact ⟨rfl, HT0.out.below ((Below.refl w1.heap.size w1).drew.trans hB3)⟩
  case rest =>
  obtain ⟨rfl, HT1⟩ := hcut
  clear HT0 a9 b9 HW HWQ
  have a10 : wc.cell? ⟨w.heap.size, 10, none⟩ = some (.slice ra rn rc) := cell_of_block HT1.out.ba 10 _ rfl
  have b10 : wc.cell? ⟨w.heap.size + 1, 10, none⟩ = some (.slice rb rn rd2) := cell_of_block HT1.out.bb 10 _ rfl
  have nrn : ((rn : Int) == (rn : Int)) = true := by simp
  go_wp2_with fail
  clear nrn a10 b10
  go_loopw [5] (fun i wr => ∃ j : Nat, j ≤ rn ∧ i = .int .i64 j ∧ Hid (EQ w wr #[.string nm, .string kd, .string hs, .string pa, .int .u64 gen, .string phs, .int .u64 tr, .string ad, .bool cl, .pointer wp, .slice ra rn rc, .pointer xp, .pointer lp] #[.string nm, .string kd, .string hs, .string pa, .int .u64 gen, .string phs, .int .u64 tr, .string ad, .bool cl, .pointer wq, .slice rb rn rd2, .pointer xq, .pointer lq])) (fun i _ => rn - (intOf i).toNat)
  case atStart => exact ⟨0, Nat.zero_le _, rfl, HT1⟩
  case round =>
  obtain ⟨j, hj, rfl, HTr⟩ := hrel
  clear HT1
  have a10 : wr.cell? ⟨w.heap.size, 10, none⟩ = some (.slice ra rn rc) := cell_of_block HTr.out.ba 10 _ rfl
  by_cases hlt : (j : Int) < (rn : Int)
  · have hj' : j < rd.length := by omega
    have b10 : wr.cell? ⟨w.heap.size + 1, 10, none⟩ = some (.slice rb rn rd2) := cell_of_block HTr.out.bb 10 _ rfl
    obtain ⟨b, o, hra, hI⟩ : ∃ b o, ra = some ⟨b, o, none⟩ ∧ ∀ j (h : j < rd.length), HoldA w b (o + j * 3) rd[j] := by
      rcases HR.out with h0 | h
      · subst h0; simp at hj'
      · exact h
    obtain ⟨bq, oq, hrb, hIq⟩ : ∃ b o, rb = some ⟨b, o, none⟩ ∧ ∀ j (h : j < rd.length), HoldA w b (o + j * 3) rd[j] := by
      rcases HRQ.out with h0 | h
      · subst h0; simp at hj'
      · exact h
    subst hra hrb
    obtain ⟨p0, p1, p2⟩ := (hI j hj').below HTr.out.b (Nat.le_refl _)
    obtain ⟨q0, q1, q2⟩ := (hIq j hj').below HTr.out.b (Nat.le_refl _)
    obtain ⟨hc, he, ht, hcet⟩ : ∃ c e t, rd[j] = (c, e, t) := ⟨_, _, _, rfl⟩
    rw [hcet] at p0 p1 p2 q0 q1 q2
    simp only at p0 p1 p2 q0 q1 q2
    clear hI hIq hcet
    have C27 := hide (equal27 hc he ht wr.drew)
    have KEEP := hide (show ∀ w', Below wr.heap.size wr.drew w' → (w'.cell? ⟨w.heap.size, 10, none⟩ = some (.slice (some ⟨b, o, none⟩) rn rc) ∧ w'.cell? ⟨w.heap.size + 1, 10, none⟩ = some (.slice (some ⟨bq, oq, none⟩) rn rd2) ∧ w'.cell? ⟨b, o + j * 3, none⟩ = some (.string hc) ∧ w'.cell? ⟨b, o + j * 3 + 1, none⟩ = some (.int .u64 he) ∧ w'.cell? ⟨b, o + j * 3 + 2, none⟩ = some (.int .u64 ht) ∧ w'.cell? ⟨bq, oq + j * 3, none⟩ = some (.string hc) ∧ w'.cell? ⟨bq, oq + j * 3 + 1, none⟩ = some (.int .u64 he) ∧ w'.cell? ⟨bq, oq + j * 3 + 2, none⟩ = some (.int .u64 ht)) from fun w' hB =>
      ⟨cell_below hB (Nat.le_refl _) a10, cell_below hB (Nat.le_refl _) b10, cell_below hB (Nat.le_refl _) p0, cell_below hB (Nat.le_refl _) p1, cell_below hB (Nat.le_refl _) p2, cell_below hB (Nat.le_refl _) q0, cell_below hB (Nat.le_refl _) q1, cell_below hB (Nat.le_refl _) q2⟩)
    go_wp2_with fail
    go_region_held3 (fun w' => w'.cell? ⟨w.heap.size, 10, none⟩ = some (.slice (some ⟨b, o, none⟩) rn rc) ∧ w'.cell? ⟨w.heap.size + 1, 10, none⟩ = some (.slice (some ⟨bq, oq, none⟩) rn rd2) ∧ w'.cell? ⟨b, o + j * 3, none⟩ = some (.string hc) ∧ w'.cell? ⟨b, o + j * 3 + 1, none⟩ = some (.int .u64 he) ∧ w'.cell? ⟨b, o + j * 3 + 2, none⟩ = some (.int .u64 ht) ∧ w'.cell? ⟨bq, oq + j * 3, none⟩ = some (.string hc) ∧ w'.cell? ⟨bq, oq + j * 3 + 1, none⟩ = some (.int .u64 he) ∧ w'.cell? ⟨bq, oq + j * 3 + 2, none⟩ = some (.int .u64 ht))
      (first | exact KEEP.out _ ((Below.refl _ _)) | exact KEEP.out _ hB3)
      ((go_at_call 27; go_must (refine (unhide C27).mono ?_; rintro e w3 ⟨rfl, hB3⟩)))
    go_wp2_with fail
    go_roundw
    case rel => exact ⟨j + 1, by omega, by go_num, HTr.out.below ((Below.refl wr.heap.size wr).drew.trans hB3)⟩
    case measure => simp [intOf]; omega
  · clear HR HRQ
    have a11 : wr.cell? ⟨w.heap.size, 11, none⟩ = some (.pointer xp) := cell_of_block HTr.out.ba 11 _ rfl
    have b11 : wr.cell? ⟨w.heap.size + 1, 11, none⟩ = some (.pointer xq) := cell_of_block HTr.out.bb 11 _ rfl
    go_upto_region 18 with fail
    go_cut [117] (fun c wd => c = .bool false ∧ wd = wr)
    case first =>
      as_aux_lemma =>
      cases xo with
      | none =>
        have hwp : xp = none := by have h := HX.out; simpa [RunP] using h
        have hwq : xq = none := by have h := HXQ.out; simpa [RunP] using h
        subst hwp hwq
        go_wp2_with fail
        go_meet
        case rel => exact ⟨rfl, rfl⟩
      | some h =>
        obtain ⟨b, o, hp, _⟩ := HX.out
        obtain ⟨bq, oq, hpq, _⟩ := HXQ.out
        simp only [Value.pointer.injEq] at hp hpq
        subst hp hpq
        go_wp2_with fail
        go_meet
        case rel => exact ⟨rfl, rfl⟩
    case rest =>
    obtain ⟨rfl, hwc⟩ := hcut
    rw [hwc]
    clear hwc wc
    go_upto_if 120 with fail
    go_cut [] (fun wd => Hid (EQ w wd #[.string nm, .string kd, .string hs, .string pa, .int .u64 gen, .string phs, .int .u64 tr, .string ad, .bool cl, .pointer wp, .slice ra rn rc, .pointer xp, .pointer lp] #[.string nm, .string kd, .string hs, .string pa, .int .u64 gen, .string phs, .int .u64 tr, .string ad, .bool cl, .pointer wq, .slice rb rn rd2, .pointer xq, .pointer lq]))
    case first =>
      as_aux_lemma =>
      cases xo with
      | none =>
        have hwp : xp = none := by have h := HX.out; simpa [RunP] using h
        subst hwp
        go_wp2_with fail
        go_meet
        case rel => exact HTr
      | some h =>
        obtain ⟨b, o, hp, r0, r1⟩ := HX.out
        obtain ⟨bq, oq, hpq, s0, s1⟩ := HXQ.out
        simp only [Value.pointer.injEq] at hp hpq
        subst hp hpq
        obtain ⟨hc, he⟩ := h
        have p0 := cell_below HTr.out.b (Nat.le_refl _) r0
        have q0 := cell_below HTr.out.b (Nat.le_refl _) s0
        have p1 := cell_below HTr.out.b (Nat.le_refl _) r1
        have q1 := cell_below HTr.out.b (Nat.le_refl _) s1
        simp only at p0 q0 p1 q1
        clear r0 s0 r1 s1
        have m0 : (hc.toList == hc.toList) = true := by simp
        have m1 : (he == he) = true := by simp
        go_wp2_with fail
        go_quiet (fail)
        go_wp2_with fail
        go_meet
        case rel => exact HTr.out.below (below_drewN (Below.refl _ _) _)
    case rest =>
    clear a11 b11 HX HXQ
    have HT2 := hcut
    clear hcut
    clear HTr
    generalize wc = W at *
    have a12 : W.cell? ⟨w.heap.size, 12, none⟩ = some (.pointer lp) := cell_of_block HT2.out.ba 12 _ rfl
    have b12 : W.cell? ⟨w.heap.size + 1, 12, none⟩ = some (.pointer lq) := cell_of_block HT2.out.bb 12 _ rfl
    go_upto_region 23 with fail
    go_cut [151] (fun c wd => c = .bool false ∧ wd = W)
    case first =>
      as_aux_lemma =>
      cases lo with
      | none =>
        have hwp : lp = none := by have h := HL.out; simpa [EndP] using h
        have hwq : lq = none := by have h := HLQ.out; simpa [EndP] using h
        subst hwp hwq
        go_wp2_with fail
        go_meet
        case rel => exact ⟨rfl, rfl⟩
      | some h =>
        obtain ⟨b, o, hp, _⟩ := HL.out
        obtain ⟨bq, oq, hpq, _⟩ := HLQ.out
        simp only [Value.pointer.injEq] at hp hpq
        subst hp hpq
        go_wp2_with fail
        go_meet
        case rel => exact ⟨rfl, rfl⟩
    case rest =>
    obtain ⟨rfl, hwc⟩ := hcut
    rw [hwc]
    clear hwc wc
    go_upto_if 154 with fail
    go_cut [] (fun wd => Hid (EQ w wd #[.string nm, .string kd, .string hs, .string pa, .int .u64 gen, .string phs, .int .u64 tr, .string ad, .bool cl, .pointer wp, .slice ra rn rc, .pointer xp, .pointer lp] #[.string nm, .string kd, .string hs, .string pa, .int .u64 gen, .string phs, .int .u64 tr, .string ad, .bool cl, .pointer wq, .slice rb rn rd2, .pointer xq, .pointer lq]))
    case first =>
      as_aux_lemma =>
      cases lo with
      | none =>
        have hwp : lp = none := by have h := HL.out; simpa [EndP] using h
        subst hwp
        go_wp2_with fail
        go_meet
        case rel => exact HT2
      | some h =>
        obtain ⟨b, o, hp, r0, r1, r2, r3, r4⟩ := HL.out
        obtain ⟨bq, oq, hpq, s0, s1, s2, s3, s4⟩ := HLQ.out
        simp only [Value.pointer.injEq] at hp hpq
        subst hp hpq
        obtain ⟨hc, he, hr, hq, ho⟩ := h
        have p0 := cell_below HT2.out.b (Nat.le_refl _) r0
        have q0 := cell_below HT2.out.b (Nat.le_refl _) s0
        have p1 := cell_below HT2.out.b (Nat.le_refl _) r1
        have q1 := cell_below HT2.out.b (Nat.le_refl _) s1
        have p2 := cell_below HT2.out.b (Nat.le_refl _) r2
        have q2 := cell_below HT2.out.b (Nat.le_refl _) s2
        have p3 := cell_below HT2.out.b (Nat.le_refl _) r3
        have q3 := cell_below HT2.out.b (Nat.le_refl _) s3
        have p4 := cell_below HT2.out.b (Nat.le_refl _) r4
        have q4 := cell_below HT2.out.b (Nat.le_refl _) s4
        simp only at p0 q0 p1 q1 p2 q2 p3 q3 p4 q4
        clear r0 s0 r1 s1 r2 s2 r3 s3 r4 s4
        have m0 : (hc.toList == hc.toList) = true := by simp
        have m1 : (he == he) = true := by simp
        have m2 : (hr.toList == hr.toList) = true := by simp
        have m3 : (hq == hq) = true := by simp
        have m4 : (ho.toList == ho.toList) = true := by simp
        go_wp2_with fail
        go_quiet (fail)
        go_wp2_with fail
        go_quiet (fail)
        go_wp2_with fail
        go_meet
        case rel => exact HT2.out.below (below_drewN (below_drewN (Below.refl _ _) _) _)
    case rest =>
    go_wp2_with fail
    go_ret
    exact ⟨rfl, hcut.out.b⟩
end Go.Proofs.Qxb6002694a

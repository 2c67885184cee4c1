/-
  text (36) and join (37).
-/
import Derived.Test.Qxb6604427aHead
namespace Go.Proofs.Qxb6604427a
open Go Go.RowKit
set_option maxRecDepth 100000

set_option maxHeartbeats 400000 in
theorem text_none (bt bb bo p : Nat) (w : World) : Calls Try.prog 36 #[.pointer (some ⟨bt, 0, none⟩), .int .i64 p, .int .i64 0, .pointer (some ⟨bb, bo, none⟩)] w fun e w' => e = .returned (.slice none 0 0) ∧ w' = w := by
  go_enter Try.func36, Try.ntmps36
  go_wp2_with fail
  go_ret
  exact ⟨rfl, rfl⟩

/-- The text stands in one block. -/
def InBlock (p n : Nat) : Prop := p % 65536 + n ≤ 65536

set_option maxHeartbeats 400000 in
theorem text_in (bt gb c : Nat) (gs f : Nat → Nat) (N p n bb bo : Nat) (w : World) (T : TapeAt w bt gb c gs f N) (hp : p + n ≤ N) (hn : 0 < n) (hN : N ≤ 16777216) (hI : InBlock p n) :
    Calls Try.prog 36 #[.pointer (some ⟨bt, 0, none⟩), .int .i64 p, .int .i64 n, .pointer (some ⟨bb, bo, none⟩)] w fun e w' => e = .returned (.slice (some ⟨gs (p / 65536), p % 65536, none⟩) n n) ∧ w' = w := by
  obtain ⟨h1, h2⟩ := at_form N p (by omega)
  have c0 := T.hd
  have c1 := T.bls (p / 65536) h1
  have hand := and_65535 p (by omega)
  have hle : p % 65536 + n ≤ bl N (p / 65536) := by unfold InBlock at hI; unfold bl; omega
  clear T hI
  have hn0 : ((n : Int) == 0) = false := by simp; omega
  have hsh0 : (p : Int) / 65536 = ((p / 65536 : Nat) : Int) := by omega
  generalize hq : p / 65536 = q at *
  generalize hr : p % 65536 = r at *
  have hp' : (p : Int) ≤ 16777216 := by omega
  have hb : bl N q ≤ 65536 := by unfold bl; omega
  have hnn : nb N ≤ 65536 := by unfold nb; omega
  clear hq hr
  generalize hL : bl N q = L at *
  generalize nb N = M at *
  clear hL
  have hrL : ¬ L = r := by omega
  have hn2 : (n : Int) ≤ (L : Int) - (r : Int) := by omega
  go_enter Try.func36, Try.ntmps36
  go_wp2_with fail
  go_ret
  exact ⟨rfl, rfl⟩

/-- The n bytes at p. -/
def txt (f : Nat → Nat) (p n : Nat) : List Nat := (List.range n).map fun j => f (p + j)
theorem txt_len (f : Nat → Nat) (p n : Nat) : (txt f p n).length = n := by simp [txt]
theorem txt_add (f : Nat → Nat) (p a b : Nat) : txt f p (a + b) = txt f p a ++ txt f (p + a) b := by
  unfold txt; rw [List.range_add, List.map_append, List.map_map]
  congr 1
  refine List.map_congr_left fun j _ => ?_
  simp [Nat.add_assoc]
theorem txt_get (f : Nat → Nat) (p n j : Nat) (h : j < n) : (txt f p n)[j]? = some (f (p + j)) := by simp [txt, h]

/-- Nothing of the tape lies in block G. -/
structure Apart (bt gb : Nat) (gs : Nat → Nat) (N G : Nat) : Prop where
  t : bt ≠ G
  b : gb ≠ G
  s : ∀ q, q < nb N → gs q ≠ G
theorem TapeAt.lt {w : World} {bt gb c : Nat} {gs f : Nat → Nat} {N : Nat} (T : TapeAt w bt gb c gs f N) : bt < w.heap.size ∧ (0 < N → gb < w.heap.size) ∧ ∀ q, q < nb N → gs q < w.heap.size := by
  refine ⟨World.block_lt_of_cell? w _ T.hd, fun h => World.block_lt_of_cell? w _ (T.bls 0 (by unfold nb; omega)), fun q hq => ?_⟩
  exact World.block_lt_of_cell? w _ (T.bytes q hq 0 (by unfold nb at hq; unfold bl; omega))
theorem TapeAt.keep {w w' : World} {bt gb c : Nat} {gs f : Nat → Nat} {N : Nat} (T : TapeAt w bt gb c gs f N) (h : ∀ k, k < w.heap.size → (k = bt ∨ k = gb ∨ ∃ q, q < nb N ∧ k = gs q) → w'.heap[k]? = w.heap[k]?) : TapeAt w' bt gb c gs f N := by
  obtain ⟨h1, h2, h3⟩ := T.lt
  refine ⟨(World.cell?_of_block (a := ⟨bt, 0, none⟩) (h bt h1 (Or.inl rfl))).trans T.hd, fun q hq => ?_, fun q hq j hj => ?_⟩
  · exact (World.cell?_of_block (a := ⟨gb, q, none⟩) (h gb (h2 (by unfold nb at hq; omega)) (Or.inr (Or.inl rfl)))).trans (T.bls q hq)
  · exact (World.cell?_of_block (a := ⟨gs q, j, none⟩) (h (gs q) (h3 q hq) (Or.inr (Or.inr ⟨q, hq, rfl⟩)))).trans (T.bytes q hq j hj)
theorem TapeAt.grown {w w' : World} {bt gb c : Nat} {gs f : Nat → Nat} {N G : Nat} (T : TapeAt w bt gb c gs f N) (A : Apart bt gb gs N G) (hg : w.grownBy w' (some G)) : TapeAt w' bt gb c gs f N :=
  T.keep fun k hk h => hg.block k hk (fun e => by
    have e := Option.some.inj e
    rcases h with h | h | ⟨q, hq, h⟩
    · exact A.t (h ▸ e)
    · exact A.b (h ▸ e)
    · exact A.s q hq (h ▸ e))
theorem TapeAt.grownN {w w' : World} {bt gb c : Nat} {gs f : Nat → Nat} {N : Nat} (T : TapeAt w bt gb c gs f N) (hg : w.grownBy w' none) : TapeAt w' bt gb c gs f N :=
  T.keep fun k hk _ => hg.block k hk (by simp)

/-- A block's bytes from offset r on, as a source. -/
theorem TapeAt.src {w : World} {bt gb c : Nat} {gs f : Nat → Nat} {N : Nat} (T : TapeAt w bt gb c gs f N) (p m : Nat) (hp : p < N) (hm : p % 65536 + m ≤ bl N (p / 65536)) :
    ∀ j u, (bc (txt f p m))[j]? = some u → w.cell? ((⟨gs (p / 65536), p % 65536, none⟩ : Addr).add j) = some u := by
  intro j u hj
  obtain ⟨h1, h2⟩ := at_form N p hp
  have hjm : j < m := by have := (List.getElem?_eq_some_iff.1 hj).1; simpa [bc, txt] using this
  simp only [bc, List.getElem?_map, txt_get f p m j hjm, Option.map_some] at hj
  rw [Addr.add_mid, ← hj]
  have h := T.bytes _ h1 (p % 65536 + j) (by omega)
  rw [show p / 65536 * 65536 + (p % 65536 + j) = p + j by omega] at h
  exact h

theorem own_zero {w : World} {B : Nat} {g l c : Nat} {X : List Value} (h : w.ownsRow B 5 1 (.slice (some ⟨g, 0, none⟩) l c) l X) : w.ownsRow B 5 1 (.slice (some ⟨g, 0, none⟩) 0 c) 0 [] := by
  rcases h.2 with ⟨h', _⟩ | ⟨g', cap', cur, h', hb, hg, hnc, hcm, hcs, htake⟩
  · simp at h'
  · simp only [Value.slice.injEq, Option.some.injEq, Addr.mk.injEq, and_true, true_and] at h'
    obtain ⟨rfl, rfl⟩ := h'
    exact ⟨by simp, .inr ⟨g, c, cur, rfl, hb, hg, Nat.zero_le _, hcm, hcs, by simp⟩⟩
theorem own_cap {w : World} {B g l c e sz : Nat} {X : List Value} (h : w.ownsRow B e sz (.slice (some ⟨g, 0, none⟩) l c) l X) : l ≤ c ∧ c ≤ maxLen := by
  rcases h.2 with ⟨h', _⟩ | ⟨g', cap', cur, h', hb, hg, hnc, hcm, hcs, htake⟩
  · simp at h'
  · simp only [Value.slice.injEq, Option.some.injEq, Addr.mk.injEq, and_true, true_and] at h'
    obtain ⟨rfl, rfl⟩ := h'
    exact ⟨hnc, hcm⟩

theorem grown_cell (w : World) (a : Addr) (u : Value) : w.grownBy (w.setCell a u) (some a.block) := grown_set (World.grownBy.refl _ _) rfl u
theorem grown_trans {w w1 w2 : World} {r : Option Nat} (h : w.grownBy w1 r) (k : w1.grownBy w2 r) : w.grownBy w2 r :=
  ⟨k.os.trans h.os, k.tape.trans h.tape, k.output.trans h.output, Nat.le_trans h.size k.size, fun i hi hn => (k.block i (Nat.lt_of_lt_of_le hi h.size) hn).trans (h.block i hi hn)⟩

/-- What a read through *buf may have changed: the variable buf in block bb, the array that it had. -/
structure Chg (w w' : World) (bb bo : Nat) (vb : Value) : Prop where
  os : w'.os = w.os
  tape : w'.tape = w.tape
  output : w'.output = w.output
  size : w.heap.size ≤ w'.heap.size
  block : ∀ k, k < w.heap.size → k ≠ bb → vb.ownBlock ≠ some k → w'.heap[k]? = w.heap[k]?
  kept : ∀ a v, w.cell? a = some v → a ≠ ⟨bb, bo, none⟩ → vb.ownBlock ≠ some a.block → w'.cell? a = some v
  fz : w.frozen? ⟨bb, bo, none⟩ = false → w'.frozen? ⟨bb, bo, none⟩ = false

set_option maxHeartbeats 1000000 in
theorem join_any (bt gb c : Nat) (gs f : Nat → Nat) (N p n bb bo : Nat) (w : World) (T : TapeAt w bt gb c gs f N) (hp : p + n ≤ N) (hn : 0 < n) (hN : N ≤ 16777216) (vb : Value) (lb : Nat) (X : List Value) (hcb : w.cell? ⟨bb, bo, none⟩ = some vb) (hfb : w.frozen? ⟨bb, bo, none⟩ = false)
    (hvo : w.ownsRow 0 5 1 vb lb X) (hap : ∀ G, vb.ownBlock = some G → Apart bt gb gs N G ∧ G ≠ bb) :
    Calls Try.prog 37 #[.pointer (some ⟨bt, 0, none⟩), .int .i64 p, .int .i64 n, .pointer (some ⟨bb, bo, none⟩)] w fun e w' => ∃ G C, e = .returned (.slice (some ⟨G, 0, none⟩) n C) ∧
      w'.cell? ⟨bb, bo, none⟩ = some (.slice (some ⟨G, 0, none⟩) n C) ∧ w'.ownsRow 0 5 1 (.slice (some ⟨G, 0, none⟩) n C) n (bc (txt f p n)) ∧ ((G = w.heap.size ∧ C = n) ∨ vb.ownBlock = some G) ∧ Chg w w' bb bo vb := by
  obtain ⟨i5, hi5, hz5, hs5, hb5⟩ := info_parts Try.info5
  have hbs : bb < w.heap.size := World.block_lt_of_cell? w _ hcb
  go_enter Try.func37, Try.ntmps37
  go_upto_region 1 with fail
  go_cut [9] (fun s9 wd => ∃ ao C, s9 = .slice ao 0 C ∧ C ≤ maxLen ∧ w.ownsRow 0 5 1 s9 0 [] ∧ s9.ownBlock = vb.ownBlock ∧ wd = w)
  case first =>
    rcases hvo.2 with ⟨rfl, rfl⟩ | ⟨g, cap, cur, rfl, _⟩
    · go_wp2
      go_meet
      case rel => exact ⟨_, _, rfl, by omega, World.ownsRow_nil _ _ _ _, rfl, rfl⟩
    · obtain ⟨hc1, hc2⟩ := own_cap hvo
      unfold maxLen at hc2
      have hvo2 := own_zero hvo
      go_wp2
      go_meet
      case rel => exact ⟨_, _, rfl, by unfold maxLen; omega, hvo2, rfl, rfl⟩
  case rest =>
  obtain ⟨ao, C, rfl, hC, hvo2, hob, hwc⟩ := hcut
  obtain rfl : w = wc := hwc.symm
  have HOB := hide hob
  clear hob
  unfold maxLen at hC
  go_upto_if 18 with fail
  go_cut [9] (fun s9 wd => ∃ G C, s9 = .slice (some ⟨G, 0, none⟩) 0 C ∧ n ≤ C ∧ C ≤ maxLen ∧ wd.ownsRow 0 5 1 s9 0 [] ∧ w.grownBy wd none ∧ ((G = w.heap.size ∧ C = n) ∨ vb.ownBlock = some G))
  case first =>
    by_cases hlt : (C : Int) < (n : Int)
    · go_wp2_with (at_make; go_must (refine wpList_make_own _ rfl _ _ 29 rfl 0 5 i5 (.int .u8 0) 1 Try.underlying29 hi5 hz5 hs5 .i64 .i64 _ n rfl rfl rfl (by rw [hb5]; omega) (by unfold maxLen; omega) (Nat.zero_le _) ?_; intro w1 hown1 hg1))
      go_meet
      case rel => exact ⟨_, _, rfl, Nat.le_refl _, by unfold maxLen; omega, hown1, hg1, Or.inl ⟨rfl, rfl⟩⟩
    · go_wp2
      go_meet
      case rel =>
        rcases hvo2.2 with ⟨h, _⟩ | ⟨g, cap, cur, h, _⟩
        · simp at h; omega
        · simp at h
          obtain ⟨rfl, rfl⟩ := h
          exact ⟨g, C, rfl, by omega, by unfold maxLen; omega, hvo2, World.grownBy.refl _ _, Or.inr HOB.out.symm⟩
  case rest =>
  obtain ⟨G, C, rfl, hnC, hCm, hown, hgw, hG⟩ := hcut
  have hA : Apart bt gb gs N G ∧ G ≠ bb := by
    rcases hG with ⟨rfl, _⟩ | h
    · obtain ⟨h1, h2, h3⟩ := T.lt
      exact ⟨⟨by omega, by have := h2 (by omega); omega, fun q hq => by have := h3 q hq; omega⟩, by omega⟩
    · exact hap G h
  have T1 := T.grownN hgw
  have hcb1 := hgw.cell hcb (by simp)
  have hfb1 : wc.frozen? ⟨bb, bo, none⟩ = false := (World.frozen?_of_block (a := ⟨bb, bo, none⟩) (hgw.block bb hbs (by simp))).trans hfb
  clear hvo hap hvo2 HOB T
  unfold maxLen at hCm
  go_wp2_with fail
  go_loopw [9, 1] (fun b pp wr => ∃ t P : Nat, t ≤ n ∧ b = .slice (some ⟨G, 0, none⟩) t C ∧ pp = .int .i64 P ∧ Hid (P = p + t) ∧ wr.ownsRow 0 5 1 b t (bc (txt f p t)) ∧ wc.grownBy wr (some G)) (fun _ pp _ => 33554432 - (intOf pp).toNat)
  case atStart => exact ⟨0, p, Nat.zero_le _, rfl, rfl, rfl, hown, World.grownBy.refl _ _⟩
  case round =>
    obtain ⟨t, P, ht, rfl, rfl, HP, hownr, hgr⟩ := hrel
    have T2 := T1.grown hA.1 hgr
    have hPv := HP.out
    by_cases hlt : (t : Int) < (n : Int)
    · obtain ⟨h1, h2⟩ := at_form N P (by omega)
      have c0 := T2.hd
      have c1 := T2.bls (P / 65536) h1
      have hand := and_65535 P (by omega)
      have hsh0 : (P : Int) / 65536 = ((P / 65536 : Nat) : Int) := by omega
      obtain ⟨m, hm⟩ : ∃ m : Nat, m = min (bl N (P / 65536) - P % 65536) (n - t) := ⟨_, rfl⟩
      have hsrc := T2.src P m (by omega) (by omega)
      have HSRC := hide hsrc
      have hbl : bl N (P / 65536) ≤ 65536 := by unfold bl; omega
      have hnb : nb N ≤ 65536 := by unfold nb; omega
      clear hsrc
      generalize hq : P / 65536 = q at *
      generalize hr : P % 65536 = r at *
      generalize hL : bl N q = L at *
      generalize nb N = M at *
      have HQ := hide hq
      have HR := hide hr
      have HM := hide hm
      have hP2 : (P : Int) ≤ 16777216 := by omega
      have hmL : m ≤ L - r := by omega
      have hmn : m ≤ n - t := by omega
      have hm0 : 0 < m := by omega
      have hrL : ¬ L = r := by omega
      clear hq hr hL hm hPv
      by_cases hmin : (n : Int) - (t : Int) < ((L - r : Nat) : Int)
      · have hm' : m = n - t := by have := HM.out; omega
        subst hm'
        go_wp2_with (at_builtin; go_must (refine wpList_append_fits _ rfl (.tmp 46) (.tmp 47) 29 rfl 0 5 i5 1 Try.underlying29 hi5 hs5 G t C (bc (txt f p t)) rfl hownr ⟨gs q, r, none⟩ (n - t) (L - r) (bc (txt f P (n - t))) rfl (by simp [bc, txt]) HSRC.out (bc_one _) (by omega) ?_; intro w3 hown3 hg3))
        go_roundw
        case rel =>
          refine ⟨t + (n - t), P + (n - t), by omega, (by first | rfl | rw [Nat.add_sub_cancel' (by omega)]), by go_num, ?_, ?_, grown_trans hgr hg3⟩
          · show P + (n - t) = p + (t + (n - t))
            have := HP.out; omega
          · rw [txt_add, bc_append, ← HP.out]; first | exact hown3 | (have e3 : t + (n - t) = n := (by omega); rw [e3] at hown3 ⊢; exact hown3)
        case measure => simp [intOf]; omega
      · have hm' : m = L - r := by have := HM.out; omega
        subst hm'
        go_wp2_with (at_builtin; go_must (refine wpList_append_fits _ rfl (.tmp 46) (.tmp 47) 29 rfl 0 5 i5 1 Try.underlying29 hi5 hs5 G t C (bc (txt f p t)) rfl hownr ⟨gs q, r, none⟩ (L - r) (L - r) (bc (txt f P (L - r))) rfl (by simp [bc, txt]) HSRC.out (bc_one _) (by omega) ?_; intro w3 hown3 hg3))
        go_roundw
        case rel =>
          refine ⟨t + (L - r), P + (L - r), by omega, (by first | rfl | rw [Nat.add_sub_cancel' (by omega)]), by go_num, ?_, ?_, grown_trans hgr hg3⟩
          · show P + (L - r) = p + (t + (L - r))
            have := HP.out; omega
          · rw [txt_add, bc_append, ← HP.out]; first | exact hown3 | (have e3 : t + (n - t) = n := (by omega); rw [e3] at hown3 ⊢; exact hown3)
        case measure => simp [intOf]; omega
    · have htn : t = n := by omega
      subst htn
      have hc2 : wr.cell? ⟨bb, bo, none⟩ = some vb := hgr.cell hcb1 (fun e => hA.2 (Option.some.inj e).symm)
      have hf2 : wr.frozen? ⟨bb, bo, none⟩ = false := (World.frozen?_of_block (a := ⟨bb, bo, none⟩) (hgr.block bb (Nat.lt_of_lt_of_le hbs hgw.size) (fun e => hA.2 (Option.some.inj e).symm))).trans hfb1
      go_wp2
      go_ret
      have hst : (wr.setCell ⟨bb, bo, none⟩ (.slice (some ⟨G, 0, none⟩) t C)).ownsRow 0 5 1 (.slice (some ⟨G, 0, none⟩) t C) t (bc (txt f p t)) := hownr.kept (grown_cell wr _ _) (Or.inr (by simp [Value.ownBlock]; exact hA.2))
      refine ⟨G, C, rfl, World.cell?_setCell_same _ _ _ hc2, hst, hG, ⟨hgr.os.trans hgw.os, hgr.tape.trans hgw.tape, hgr.output.trans hgw.output, ?_, ?_, ?_, fun _ => (World.frozen?_setCell _ _ _ _).trans hf2⟩⟩
      · have h1 := hgr.size
        have h2 := hgw.size
        simp [World.setCell]; omega
      · intro k hk hkb hkv
        refine (Below.heap_setCell _ _ _ _ hkb).trans ((hgr.block k (Nat.lt_of_lt_of_le hk hgw.size) (fun e => ?_)).trans (hgw.block k hk (by simp)))
        have e := Option.some.inj e
        rcases hG with ⟨h, _⟩ | h
        · omega
        · exact hkv (e ▸ h)
      · intro a v ha hne hv
        refine (World.cell?_setCell_other _ _ _ _ (fun e => hne e.symm)).trans (hgr.cell (hgw.cell ha (by simp)) (fun e => ?_))
        have e := Option.some.inj e
        rcases hG with ⟨h, _⟩ | h
        · have := World.block_lt_of_cell? w _ ha
          omega
        · exact hv (e ▸ h)

set_option maxHeartbeats 400000 in
theorem text_join (bt gb c : Nat) (gs f : Nat → Nat) (N p n bb bo : Nat) (w : World) (T : TapeAt w bt gb c gs f N) (hp : p + n ≤ N) (hn : 0 < n) (hN : N ≤ 16777216) (hI : ¬ InBlock p n) (vb : Value) (lb : Nat) (X : List Value) (hcb : w.cell? ⟨bb, bo, none⟩ = some vb) (hfb : w.frozen? ⟨bb, bo, none⟩ = false)
    (hvo : w.ownsRow 0 5 1 vb lb X) (hap : ∀ G, vb.ownBlock = some G → Apart bt gb gs N G ∧ G ≠ bb) :
    Calls Try.prog 36 #[.pointer (some ⟨bt, 0, none⟩), .int .i64 p, .int .i64 n, .pointer (some ⟨bb, bo, none⟩)] w fun e w' => ∃ G C, e = .returned (.slice (some ⟨G, 0, none⟩) n C) ∧
      w'.cell? ⟨bb, bo, none⟩ = some (.slice (some ⟨G, 0, none⟩) n C) ∧ w'.ownsRow 0 5 1 (.slice (some ⟨G, 0, none⟩) n C) n (bc (txt f p n)) ∧ ((G = w.heap.size ∧ C = n) ∨ vb.ownBlock = some G) ∧ Chg w w' bb bo vb := by
  obtain ⟨h1, h2⟩ := at_form N p (by omega)
  have c0 := T.hd
  have c1 := T.bls (p / 65536) h1
  have hand := and_65535 p (by omega)
  have hle : bl N (p / 65536) < p % 65536 + n := by unfold InBlock at hI; unfold bl; omega
  have C37 := hide (join_any bt gb c gs f N p n bb bo w T hp hn hN vb lb X hcb hfb hvo hap)
  clear T hI hcb hfb hvo hap
  have hn0 : ((n : Int) == 0) = false := by simp; omega
  have hsh0 : (p : Int) / 65536 = ((p / 65536 : Nat) : Int) := by omega
  generalize hq : p / 65536 = q at *
  generalize hr : p % 65536 = r at *
  have hp' : (p : Int) ≤ 16777216 := by omega
  have hb : bl N q ≤ 65536 := by unfold bl; omega
  have hnn : nb N ≤ 65536 := by unfold nb; omega
  clear hq hr
  generalize hL : bl N q = L at *
  generalize nb N = M at *
  clear hL
  have hrL : ¬ L = r := by omega
  have hn2 : ¬ (n : Int) ≤ ((L - r : Nat) : Int) := by omega
  go_enter Try.func36, Try.ntmps36
  go_wp2_with fail
  refine (unhide C37).mono ?_
  rintro e w' ⟨G, C, rfl, a1, a2, a3, a4⟩
  go_wp2_with fail
  go_ret
  exact ⟨G, C, rfl, a1, a2, a3, a4⟩
end Go.Proofs.Qxb6604427a

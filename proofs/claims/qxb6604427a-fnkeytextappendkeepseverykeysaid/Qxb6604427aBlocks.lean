/-
  zzBlocks (21): the bytes laid in blocks of 65536.
-/
import Derived.Test.Qxb6604427aEncode
namespace Go.Proofs.Qxb6604427a
open Go Go.RowKit
set_option maxRecDepth 100000

/-- The length of block q of N bytes; how many blocks there are. -/
def bl (N q : Nat) : Nat := min 65536 (N - q * 65536)
def nb (N : Nat) : Nat := (N + 65535) / 65536
/-- The slices of the blocks. -/
def bv (gs : Nat → Nat) (N m : Nat) : List Value := (List.range m).map fun q => .slice (some ⟨gs q, 0, none⟩) (bl N q) (bl N q)
theorem bv_len (gs : Nat → Nat) (N m : Nat) : (bv gs N m).length = m := by simp [bv]
theorem bv_succ (gs : Nat → Nat) (N m : Nat) : bv gs N (m + 1) = bv gs N m ++ [.slice (some ⟨gs m, 0, none⟩) (bl N m) (bl N m)] := by simp [bv, List.range_succ]
theorem bv_congr {gs gs' : Nat → Nat} {N m : Nat} (h : ∀ q, q < m → gs q = gs' q) : bv gs N m = bv gs' N m := by
  unfold bv; refine List.map_congr_left fun q hq => ?_; rw [h q (List.mem_range.1 hq)]
theorem bv_one (gs : Nat → Nat) (N m : Nat) : ∀ u ∈ bv gs N m, u.oneCell' = true := by
  intro u hu; obtain ⟨_, _, rfl⟩ := List.mem_map.1 hu; rfl
theorem bv_get (gs : Nat → Nat) (N m q : Nat) (h : q < m) : (bv gs N m)[q]? = some (.slice (some ⟨gs q, 0, none⟩) (bl N q) (bl N q)) := by simp [bv, h]
theorem Try.info29 : (Try.prog.info? 29).map (fun i => (i.zero, i.size, i.bytes)) = some (some (.slice none 0 0), 1, 24) := by kernel_rfl

/-- The blocks' bytes. -/
def Bytes (w : World) (gs : Nat → Nat) (f : Nat → Nat) (N m : Nat) : Prop := ∀ q, q < m → ∀ j, j < bl N q → w.cell? ⟨gs q, j, none⟩ = some (.int .u8 (f (q * 65536 + j) : Int))

theorem own_none (v : Value) : v.ownBlock = none ∨ v.ownBlock ≠ none := by cases v.ownBlock <;> simp
theorem Bytes.grown {w w' : World} {gs f : Nat → Nat} {N m : Nat} {row : Option Nat} (h : Bytes w gs f N m) (hg : w.grownBy w' row) (hr : ∀ q, q < m → gs q < w.heap.size ∧ some (gs q) ≠ row) : Bytes w' gs f N m := fun q hq j hj =>
  (World.cell?_of_block (a := ⟨gs q, j, none⟩) (hg.block (gs q) (hr q hq).1 (hr q hq).2)).trans (h q hq j hj)

theorem grown_set {w w' : World} {g : Nat} (h : w.grownBy w' (some g)) {a : Addr} (ha : a.block = g) (u : Value) : w.grownBy (w'.setCell a u) (some g) :=
  ⟨h.os, h.tape, h.output, by have := h.size; simpa [World.setCell] using this, fun k hk hn => (Below.heap_setCell _ _ _ _ (fun e => hn (by rw [e, ha]))).trans (h.block k hk hn)⟩
theorem src_oneB (w : World) (x : Value) (hx : x.oneCell' = true) : Src Try.prog 1 42 (.slice (some ⟨w.heap.size, 0, none⟩) 1 1) 1 [x] (w.alloc (.cells #[x] 29)) :=
  Src.ofSlice _ Try.underlying42 _ _ _ _ rfl (cell_one_new _ _ _) (fun u hu => by simp at hu; subst hu; exact hx)

/-- What a round of zzBlocks leaves. -/
theorem step_blocks {w wr w4 : World} {gs f : Nat → Nat} {N m I g0 : Nat} {u3 v4 : Value} {X : List Value} (hI : I = 65536 * m) (hgs : ∀ q, q < m → w.heap.size ≤ gs q ∧ gs q < g0 ∧ u3.ownBlock ≠ some (gs q))
    (hbs : ∀ k, u3.ownBlock = some k → k < g0) (hobx : wr.ownsRow w.heap.size 29 1 u3 m (bv gs N m)) (hbyx : Bytes wr gs f N m) (hBx : Below w.heap.size w wr)
    (hownx : wr.ownsRow w.heap.size 5 1 (.slice (some ⟨g0, 0, none⟩) (bl N m) (bl N m)) (bl N m) X) (hX : ∀ s, s < bl N m → X[s]? = some (.int .u8 (f (I + s) : Int)))
    {o : Obj} (hown4 : w4.ownsRow w.heap.size 29 1 v4 (m + 1) (bv gs N m ++ [.slice (some ⟨g0, 0, none⟩) (bl N m) (bl N m)])) (hg4 : (wr.alloc o).grownBy w4 u3.ownBlock)
    (hl4 : v4.ownBlock = u3.ownBlock ∨ v4.ownBlock = some (wr.alloc o).heap.size) (hle0 : w.heap.size ≤ g0) (hsx : g0 < wr.heap.size) :
    w4.ownsRow w.heap.size 29 1 v4 (m + 1) (bv (fun q => if q = m then g0 else gs q) N (m + 1)) ∧
      (∀ q, q < m + 1 → w.heap.size ≤ (if q = m then g0 else gs q) ∧ (if q = m then g0 else gs q) < w4.heap.size ∧ v4.ownBlock ≠ some (if q = m then g0 else gs q)) ∧
      Bytes w4 (fun q => if q = m then g0 else gs q) f N (m + 1) ∧ Below w.heap.size w w4 := by
  have hsz : wr.heap.size + 1 ≤ w4.heap.size := by have := hg4.size; simpa using this
  have hne0 : u3.ownBlock ≠ some g0 := fun h => by have := hbs _ h; omega
  refine ⟨?_, ?_, ?_, ?_⟩
  · rw [bv_succ, bv_congr (gs' := gs) (fun q hq => if_neg (by omega))]
    simpa using hown4
  · intro q hq
    by_cases e : q = m
    · subst e
      simp only [if_true]
      refine ⟨hle0, by omega, ?_⟩
      rcases hl4 with h | h
      · rw [h]; exact hne0
      · rw [h]; simp; omega
    · simp only [if_neg e]
      obtain ⟨h1, h2, h3⟩ := hgs q (by omega)
      refine ⟨h1, by omega, ?_⟩
      rcases hl4 with h | h
      · rw [h]; exact h3
      · rw [h]; simp; omega
  · intro q hq j hj
    have key : ∀ b, b < wr.heap.size → u3.ownBlock ≠ some b → ∀ v, wr.cell? ⟨b, j, none⟩ = some v → w4.cell? ⟨b, j, none⟩ = some v := fun b hb hn v hv =>
      hg4.cell (cell_alloc hv _) (fun h => hn h.symm)
    by_cases e : q = m
    · subst e
      simp only [if_true]
      refine key g0 hsx hne0 _ ?_
      have h1 := hownx.cellAt j (by omega)
      rw [h1, hX j hj, hI, Nat.mul_comm]
    · simp only [if_neg e]
      obtain ⟨h1, h2, h3⟩ := hgs q (by omega)
      exact key (gs q) (by omega) h3 _ (hbyx q (by omega) j hj)
  · exact (hBx.alloc hBx.size _).grown hg4 (by simp; have := hBx.size; omega) (fun k hk => (hobx.lt k hk).1)

theorem blocks_nil (w : World) : Calls Try.prog 21 #[.slice none 0 0] w fun e w' => e = .returned (.slice none 0 0) ∧ w' = w := by
  go_enter Try.func21, Try.ntmps21
  go_wp2
  go_loop [3, 4] (fun b i => b = .slice none 0 0 ∧ i = .int .i64 0) (fun _ _ => 0)
  case atStart => exact ⟨rfl, rfl⟩
  case round =>
    obtain ⟨rfl, rfl⟩ := hrel
    go_wp2
    go_ret
    exact ⟨rfl, rfl⟩

set_option maxHeartbeats 1000000 in
theorem blocks_any (gf c N : Nat) (f : Nat → Nat) (w : World) (hF : ∀ q, q < N → w.cell? ⟨gf, q, none⟩ = some (.int .u8 (f q : Int))) (hg : gf < w.heap.size) (hN : (N : Int) ≤ 16777216) :
    Calls Try.prog 21 #[.slice (some ⟨gf, 0, none⟩) N c] w fun e w' => ∃ vb gs, e = .returned vb ∧ w'.ownsRow w.heap.size 29 1 vb (nb N) (bv gs N (nb N)) ∧ (∀ q, q < nb N → w.heap.size ≤ gs q ∧ gs q < w'.heap.size ∧ vb.ownBlock ≠ some (gs q)) ∧
      Bytes w' gs f N (nb N) ∧ Below w.heap.size w w' := by
  obtain ⟨i5, hi5, hz5, hs5, hb5⟩ := info_parts Try.info5
  go_enter Try.func21, Try.ntmps21
  go_wp2
  go_loopw [3, 4] (fun vb i wr => ∃ (m I : Nat) (gs : Nat → Nat), m ≤ nb N ∧ i = .int .i64 (I : Int) ∧ Hid (I = 65536 * m) ∧ wr.ownsRow w.heap.size 29 1 vb m (bv gs N m) ∧ (∀ q, q < m → w.heap.size ≤ gs q ∧ gs q < wr.heap.size ∧ vb.ownBlock ≠ some (gs q)) ∧
      Bytes wr gs f N m ∧ Below w.heap.size w wr) (fun _ i _ => 16842752 - (intOf i).toNat)
  case atStart => exact ⟨0, 0, fun _ => 0, Nat.zero_le _, rfl, rfl, World.ownsRow_nil _ _ _ _, fun q hq => absurd hq (by omega), fun q hq => absurd hq (by omega), Below.refl _ _⟩
  case round =>
    obtain ⟨m, I, gs, hm, rfl, HI, hob, hgs, hby, hB⟩ := hrel
    have HNB := hide (show nb N * 65536 ≤ N + 65535 ∧ N ≤ nb N * 65536 by unfold nb; omega)
    by_cases hlt : (I : Int) < (N : Int)
    · have hbl : bl N m ≤ 65536 ∧ bl N m ≤ N := by unfold bl; omega
      have hws : w.heap.size < wr.heap.size + 1 := by have := hB.size; omega
      by_cases h2 : (N : Int) < (I : Int) + 65536
      · have HJ := hide (show N = I + bl N m by have := HI.out; unfold bl; omega)
        go_upto_region 8 with fail
        clear h2
        go_wp2_with (at_make; go_must (refine wpList_make_full _ rfl _ _ 29 rfl w.heap.size 5 i5 (.int .u8 0) 1 Try.underlying29 hi5 hz5 hs5 .i64 .i64 _ _ (bl N m) rfl rfl (by have := HJ.out; go_num) (by have := HJ.out; go_num) (by rw [hb5]; omega) (by unfold maxLen; omega) (by omega) ?_; intro w2 hown2 hg2))
        have hob2 : w2.ownsRow w.heap.size 29 1 _ m (bv gs N m) := hob.kept hg2 (own_none _)
        have hby2 : Bytes w2 gs f N m := hby.grown hg2 (fun q hq => ⟨(hgs q hq).2.1, by simp⟩)
        have hB2 : Below w.heap.size w w2 := hB.grown hg2 hB.size (fun k hk => by cases hk)
        have hs2 : wr.heap.size < w2.heap.size := (hown2.lt _ rfl).2
        have hbs : ∀ k, Value.ownBlock u3 = some k → k < wr.heap.size := fun k hk => (hob.lt k hk).2
        have hle0 : w.heap.size ≤ wr.heap.size := hB.size
        clear hob hby hB hg2 hws
        generalize wr.heap.size = g0 at *
        go_loopw [7] (fun q wx => ∃ (t : Nat) (X : List Value), t ≤ bl N m ∧ q = .int .i64 ((I + t : Nat) : Int) ∧ wx.ownsRow w.heap.size 5 1 (.slice (some ⟨g0, 0, none⟩) (bl N m) (bl N m)) (bl N m) X ∧ (∀ s, s < t → X[s]? = some (.int .u8 (f (I + s) : Int))) ∧ w2.grownBy wx (some g0)) (fun q _ => 33554432 - (intOf q).toNat)
        case atStart => exact ⟨0, _, Nat.zero_le _, by go_num, hown2, fun s hs => absurd hs (by omega), World.grownBy.refl _ _⟩
        case round =>
          obtain ⟨t, X, ht, rfl, hownx, hX, hgx⟩ := hrel
          by_cases hlt2 : ((I + t : Nat) : Int) < (N : Int)
          · have ht' : t < bl N m := by have := HJ.out; omega
            have hcf : wr.cell? ⟨gf, I + t, none⟩ = some (.int .u8 (f (I + t) : Int)) :=
              hgx.cell ((hB2.cell (p := ⟨gf, I + t, none⟩) hg).trans (hF (I + t) (by omega))) (by simp; omega)
            have hcb : wr.cell? ⟨g0, t, none⟩ = X[t]? := hownx.cellAt t (by omega)
            have hfb : wr.frozen? ⟨g0, t, none⟩ = false := hownx.frozenAt t
            have hXt : t < X.length := by rw [hownx.1]; omega
            rw [List.getElem?_eq_getElem hXt] at hcb
            generalize X[t] = ut at hcb
            go_wp2
            go_roundw
            case rel =>
              refine ⟨t + 1, X.set t (.int .u8 (f (I + t) : Int)), by omega, by go_num, (hownx.stored t _).1, ?_, grown_set hgx rfl _⟩
              intro s hs
              by_cases e : s = t
              · subst e; rw [List.getElem?_set_self hXt]
              · rw [List.getElem?_set_ne (by omega)]; exact hX s (by omega)
            case measure => simp [intOf]; omega
          · have ht' : t = bl N m := by have := HJ.out; omega
            subst ht'
            have hobx := hob2.kept hgx (Or.inr (fun h => by have := hbs _ h; omega))
            have hbyx : Bytes wr gs f N m := hby2.grown hgx (fun q hq => ⟨by have := (hgs q hq).2.1; omega, by have := (hgs q hq).2.1; simp; omega⟩)
            have hBx : Below w.heap.size w wr := hB2.grown hgx hB2.size (fun k hk => by have := Option.some.inj hk; omega)
            have hsx : g0 < wr.heap.size := (hownx.lt _ rfl).2
            have hm2 : m ≤ 256 := by have := HI.out; omega
            have HX := hide hX
            have hmt : bl N m ≤ N := hbl.2
            clear hX hob2 hby2 hB2 hown2 hs2
            go_wp2_with (at_builtin; go_must (refine wpList_append_src _ rfl (.tmp 41) (.tmp 43) 42 42 rfl w.heap.size 29 (.slice none 0 0) 1 24 Try.underlying42 Try.info29 rfl u3 m (bv gs N m) rfl (hobx.alloc _) _ 1 [.slice (some ⟨g0, 0, none⟩) (bl N m) (bl N m)] rfl (src_oneB wr _ rfl) (by unfold maxLen; omega) (by omega) (by simp; omega) ?_; intro v4 w4 hown4 hg4 hl4 hc4))
            go_roundw
            case rel =>
              have hst := step_blocks HI.out hgs hbs hobx hbyx hBx hownx (HX.out) hown4 hg4 hl4 hle0 hsx
              exact ⟨m + 1, I + 65536, fun q => if q = m then g0 else gs q, by have := HI.out; have := (HNB.out).2; omega, by go_num, (by have := HI.out; show I + 65536 = _; omega), hst⟩
            case measure => have := HI.out; simp [intOf]; omega
      · obtain ⟨J, hJ⟩ : ∃ J : Nat, J = I + 65536 := ⟨_, rfl⟩
        have HJ := hide (show J = I + bl N m by have := HI.out; unfold bl; omega)
        have hJN : (J : Int) ≤ (N : Int) := by omega
        go_upto_region 8 with fail
        rw [show (I : Int) + 65536 = (J : Int) by omega]
        clear hJ h2
        go_wp2_with (at_make; go_must (refine wpList_make_full _ rfl _ _ 29 rfl w.heap.size 5 i5 (.int .u8 0) 1 Try.underlying29 hi5 hz5 hs5 .i64 .i64 _ _ (bl N m) rfl rfl (by have := HJ.out; go_num) (by have := HJ.out; go_num) (by rw [hb5]; omega) (by unfold maxLen; omega) (by omega) ?_; intro w2 hown2 hg2))
        have hob2 : w2.ownsRow w.heap.size 29 1 _ m (bv gs N m) := hob.kept hg2 (own_none _)
        have hby2 : Bytes w2 gs f N m := hby.grown hg2 (fun q hq => ⟨(hgs q hq).2.1, by simp⟩)
        have hB2 : Below w.heap.size w w2 := hB.grown hg2 hB.size (fun k hk => by cases hk)
        have hs2 : wr.heap.size < w2.heap.size := (hown2.lt _ rfl).2
        have hbs : ∀ k, Value.ownBlock u3 = some k → k < wr.heap.size := fun k hk => (hob.lt k hk).2
        have hle0 : w.heap.size ≤ wr.heap.size := hB.size
        clear hob hby hB hg2 hws
        generalize wr.heap.size = g0 at *
        go_loopw [7] (fun q wx => ∃ (t : Nat) (X : List Value), t ≤ bl N m ∧ q = .int .i64 ((I + t : Nat) : Int) ∧ wx.ownsRow w.heap.size 5 1 (.slice (some ⟨g0, 0, none⟩) (bl N m) (bl N m)) (bl N m) X ∧ (∀ s, s < t → X[s]? = some (.int .u8 (f (I + s) : Int))) ∧ w2.grownBy wx (some g0)) (fun q _ => 33554432 - (intOf q).toNat)
        case atStart => exact ⟨0, _, Nat.zero_le _, by go_num, hown2, fun s hs => absurd hs (by omega), World.grownBy.refl _ _⟩
        case round =>
          obtain ⟨t, X, ht, rfl, hownx, hX, hgx⟩ := hrel
          by_cases hlt2 : ((I + t : Nat) : Int) < (J : Int)
          · have ht' : t < bl N m := by have := HJ.out; omega
            have hcf : wr.cell? ⟨gf, I + t, none⟩ = some (.int .u8 (f (I + t) : Int)) :=
              hgx.cell ((hB2.cell (p := ⟨gf, I + t, none⟩) hg).trans (hF (I + t) (by omega))) (by simp; omega)
            have hcb : wr.cell? ⟨g0, t, none⟩ = X[t]? := hownx.cellAt t (by omega)
            have hfb : wr.frozen? ⟨g0, t, none⟩ = false := hownx.frozenAt t
            have hXt : t < X.length := by rw [hownx.1]; omega
            rw [List.getElem?_eq_getElem hXt] at hcb
            generalize X[t] = ut at hcb
            go_wp2
            go_roundw
            case rel =>
              refine ⟨t + 1, X.set t (.int .u8 (f (I + t) : Int)), by omega, by go_num, (hownx.stored t _).1, ?_, grown_set hgx rfl _⟩
              intro s hs
              by_cases e : s = t
              · subst e; rw [List.getElem?_set_self hXt]
              · rw [List.getElem?_set_ne (by omega)]; exact hX s (by omega)
            case measure => simp [intOf]; omega
          · have ht' : t = bl N m := by have := HJ.out; omega
            subst ht'
            have hobx := hob2.kept hgx (Or.inr (fun h => by have := hbs _ h; omega))
            have hbyx : Bytes wr gs f N m := hby2.grown hgx (fun q hq => ⟨by have := (hgs q hq).2.1; omega, by have := (hgs q hq).2.1; simp; omega⟩)
            have hBx : Below w.heap.size w wr := hB2.grown hgx hB2.size (fun k hk => by have := Option.some.inj hk; omega)
            have hsx : g0 < wr.heap.size := (hownx.lt _ rfl).2
            have hm2 : m ≤ 256 := by have := HI.out; omega
            have HX := hide hX
            have hmt : bl N m ≤ N := hbl.2
            clear hX hob2 hby2 hB2 hown2 hs2
            go_wp2_with (at_builtin; go_must (refine wpList_append_src _ rfl (.tmp 41) (.tmp 43) 42 42 rfl w.heap.size 29 (.slice none 0 0) 1 24 Try.underlying42 Try.info29 rfl u3 m (bv gs N m) rfl (hobx.alloc _) _ 1 [.slice (some ⟨g0, 0, none⟩) (bl N m) (bl N m)] rfl (src_oneB wr _ rfl) (by unfold maxLen; omega) (by omega) (by simp; omega) ?_; intro v4 w4 hown4 hg4 hl4 hc4))
            go_roundw
            case rel =>
              have hst := step_blocks HI.out hgs hbs hobx hbyx hBx hownx (HX.out) hown4 hg4 hl4 hle0 hsx
              exact ⟨m + 1, I + 65536, fun q => if q = m then g0 else gs q, by have := HI.out; have := (HNB.out).2; omega, by go_num, (by have := HI.out; show I + 65536 = _; omega), hst⟩
            case measure => have := HI.out; simp [intOf]; omega
    · have hmn : m = nb N := by have := HI.out; unfold nb at hm ⊢; omega
      subst hmn
      go_wp2
      go_ret
      exact ⟨_, rfl, gs, hob, hgs, hby, hB⟩
end Go.Proofs.Qxb6604427a

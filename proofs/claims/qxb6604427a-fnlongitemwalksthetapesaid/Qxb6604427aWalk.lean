/-
  FnLongItemWalksTheTape (6): the walk.
-/
import Derived.Test.Qxb6604427aShort
import Derived.Test.Qxb6604427aOpen
namespace Go.Proofs.Qxb6604427a
open Go Go.RowKit
set_option maxRecDepth 100000

/-- What holds ahead of each round. -/
structure WalkInv (w wr : World) (bt gb c : Nat) (gs : Nat → Nat) (N BB PB : Nat) (l : List (Nat × ByteArray)) (n : Nat) : Prop where
  T : TapeAt wr bt gb c gs (fl l) N
  it : ItemsAt wr w.heap.size l
  pl : ∀ j, j ≤ n → wr.cell? ⟨PB, j, none⟩ = some (.int .i64 (place l j : Int))
  bf : ∃ vb lb X, wr.cell? ⟨BB, 0, none⟩ = some vb ∧ wr.frozen? ⟨BB, 0, none⟩ = false ∧ wr.ownsRow 0 5 1 vb lb X ∧ ∀ G, vb.ownBlock = some G → BB < G
  below : Below w.heap.size w wr
  hbt : bt < BB
  hgb : gb < BB
  hgs : ∀ q, q < nb N → gs q < BB
  hit : w.heap.size < BB
  hpb : PB < BB

theorem WalkInv.drewN {w wr : World} {bt gb c : Nat} {gs : Nat → Nat} {N BB PB : Nat} {l : List (Nat × ByteArray)} {n : Nat} (h : WalkInv w wr bt gb c gs N BB PB l n) (k : Nat) : WalkInv w (wr.drewN k) bt gb c gs N BB PB l n := by
  obtain ⟨vb, lb, X, b1, b2, b3, b4⟩ := h.bf
  exact ⟨h.T.keep fun _ _ _ => rfl, fun j hj => h.it j hj, fun j hj => h.pl j hj, ⟨vb, lb, X, b1, b2, own_keep b3 (fun _ _ => rfl) (Nat.zero_le _), b4⟩, below_drewN h.below _, h.hbt, h.hgb, h.hgs, h.hit, h.hpb⟩

theorem WalkInv.chg {w wr w' : World} {bt gb c : Nat} {gs : Nat → Nat} {N BB PB : Nat} {l : List (Nat × ByteArray)} {n : Nat} (h : WalkInv w wr bt gb c gs N BB PB l n) {vb : Value} (hb : ∀ G, vb.ownBlock = some G → BB < G) (hf : wr.frozen? ⟨BB, 0, none⟩ = false) (hc : Chg wr w' BB vb)
    {v : Value} {m : Nat} {X : List Value} (h1 : w'.cell? ⟨BB, 0, none⟩ = some v) (h2 : w'.ownsRow 0 5 1 v m X) (h3 : ∀ G, v.ownBlock = some G → BB < G) : WalkInv w w' bt gb c gs N BB PB l n := by
  have hblk : ∀ k, k < BB → k < wr.heap.size → w'.heap[k]? = wr.heap[k]? := fun k hk hs => hc.block k hs (by omega) (fun e => by have := hb _ e; omega)
  have hcell : ∀ {a : Addr} {u : Value}, wr.cell? a = some u → a.block < BB → w'.cell? a = some u := fun hu ha => hc.cell hu (by omega) (fun e => by have := hb _ e; omega)
  refine ⟨h.T.keep fun k hk hq => hblk k ?_ hk, fun j hj => ⟨hcell (h.it j hj).1 h.hit, hcell (h.it j hj).2 h.hit⟩, fun j hj => hcell (h.pl j hj) h.hpb, ⟨v, m, X, h1, hc.fz hf, h2, h3⟩,
    Chg.below h.below hc h.below.size (by have := h.hit; omega) (fun G hG => by have := hb G hG; have := h.hit; omega), h.hbt, h.hgb, h.hgs, h.hit, h.hpb⟩
  rcases hq with rfl | rfl | ⟨q, hq, rfl⟩
  · exact h.hbt
  · exact h.hgb
  · exact h.hgs q hq

def LongSays (w : World) (e : Ending) (k : Nat) (t : List Nat) (z : Nat) : Prop :=
  ∃ ao n c, e = .returned (.tuple #[.int .u8 k, .slice ao n c, .int .i64 (z : Int)]) ∧ Holds w (.slice ao n c) t

theorem long_step {w wr : World} {bt gb c : Nat} {gs : Nat → Nat} {N BB PB : Nat} {l : List (Nat × ByteArray)} {n : Nat} (W : WalkInv w wr bt gb c gs N BB PB l n) (hN : N ≤ 16777216) (hNl : (encAll l).length = N) (j : Nat) (hj : j < l.length) (hk : l[j].1 ≤ 15) :
    Calls Try.prog 22 #[.pointer (some ⟨bt, 0, none⟩), .int .i64 (place l j : Int), .pointer (some ⟨BB, 0, none⟩)] wr fun e w' => LongSays w' e l[j].1 (bs l[j].2) (place l (j + 1)) ∧ WalkInv w w' bt gb c gs N BB PB l n := by
  have hE := place_at l j hj
  have hp := place_next l j hj
  have hm := place_mono l (j + 1)
  by_cases hIB : (bs l[j].2).length = 0 ∨ InBlock (place l j + hdr (bs l[j].2).length) (bs l[j].2).length
  · refine (zzlong_in bt gb c gs (fl l) N (place l j) l[j].1 BB (bs l[j].2) wr W.T hN hk hE (by omega) hIB).mono ?_
    rintro e w' ⟨rfl, rfl⟩
    have hV := inVal_holds W.T hE (by omega) hIB
    refine ⟨?_, W⟩
    obtain ⟨ao, cc, hs⟩ := holds_shape hV
    rw [hs] at hV ⊢
    exact ⟨_, _, _, by rw [hp], hV⟩
  · obtain ⟨vb, lb, X, b1, b2, b3, b4⟩ := W.bf
    refine (zzlong_join bt gb c gs (fl l) N (place l j) l[j].1 BB (bs l[j].2) wr W.T hN hk hE (by omega) (by omega) (fun h => hIB (Or.inr h)) vb lb X b1 b2 b3 (fun G hG => ?_)).mono ?_
    · have h := b4 G hG
      exact ⟨⟨by have := W.hbt; omega, by have := W.hgb; omega, fun q hq => by have := W.hgs q hq; omega⟩, by omega⟩
    · rintro e w' ⟨G, C, rfl, a1, a2, a3, a4⟩
      have hBB : BB < wr.heap.size := World.block_lt_of_cell? wr _ b1
      refine ⟨⟨_, _, _, by rw [hp], own_holds a2⟩, W.chg b4 b2 a4 a1 a2 (fun G' hG' => ?_)⟩
      simp [Value.ownBlock] at hG'
      subst hG'
      rcases a3 with rfl | h
      · exact hBB
      · exact b4 _ h

set_option maxHeartbeats 1000000 in
theorem clone17_nil (w : World) : Calls Try.prog 17 #[.slice none 0 0] w fun e w' => e = .returned (.slice none 0 0) ∧ Below w.heap.size w w' := by
  have hnil := fun (W : World) (a : Option Addr) (n c n' c' : Nat) => Lib.run_eql_slice_nil (P := Try.prog) W _ _ a n c n' c' Try.underlying31
  go_enter Try.func17, Try.ntmps17
  go_wp2_with fail
  go_ret
  exact ⟨rfl, Below.refl _ _⟩

set_option maxHeartbeats 1000000 in
theorem clone17_z (a : Addr) (cap : Nat) (w : World) : Calls Try.prog 17 #[.slice (some a) 0 cap] w fun e w' => e = .returned (.slice (some ⟨w.heap.size, 0, none⟩) 0 0) ∧ Below w.heap.size w w' := by
  obtain ⟨i49, hi49, hz49, hs49, hb49⟩ := info_parts Try.info49
  have hnil := fun (W : World) (a : Option Addr) (n c n' c' : Nat) => Lib.run_eql_slice_nil (P := Try.prog) W _ _ a n c n' c' Try.underlying31
  go_enter Try.func17, Try.ntmps17
  go_wp2_with (at_make; go_must (refine wpList_make_full _ rfl _ _ 31 rfl w.heap.size 49 i49 (.agg #[.int .u8 0, .string ⟨#[]⟩]) 2 Try.underlying31 hi49 hz49 hs49 .i64 .i64 _ _ 0 rfl rfl rfl rfl (by rw [hb49]; omega) (by unfold maxLen; omega) (Nat.le_refl _) ?_; intro w1 hown1 hg1))
  have hB1 : Below w.heap.size w w1 := (Below.refl _ _).grown hg1 (Nat.le_refl _) (fun k hk => by cases hk)
  go_loopw [4] (fun i wr => i = .int .i64 0 ∧ Below w.heap.size w wr) (fun _ _ => 0)
  case atStart => exact ⟨rfl, hB1⟩
  case round =>
    obtain ⟨rfl, hB⟩ := hrel
    go_wp2
    go_ret
    exact ⟨rfl, hB⟩

set_option maxHeartbeats 1000000 in
theorem encode_z (ao : Option Addr) (cc : Nat) (w : World) : Calls Try.prog 19 #[.slice ao 0 cc] w fun e w' => ∃ vp, e = .returned (.tuple #[.slice none 0 0, vp]) ∧ Below w.heap.size w w' := by
  obtain ⟨i3, hi3, hz3, hs3, hb3⟩ := info_parts Try.info3
  go_enter Try.func19, Try.ntmps19
  go_wp2_with (at_make; go_must (refine wpList_make_own _ rfl _ _ 37 rfl w.heap.size 3 i3 (.int .i64 0) 1 Try.underlying37 hi3 hz3 hs3 .i64 .i64 _ 1 rfl rfl (by go_num) (by rw [hb3]; omega) (by unfold maxLen; omega) (Nat.le_refl _) ?_; intro w1 hown1 hg1))
  go_loopw [4, 5, 6] (fun vf vp i wr => vf = .slice none 0 0 ∧ i = .int .i64 0 ∧ vp = .slice (some ⟨w.heap.size, 0, none⟩) 0 1 ∧ wr.ownsRow w.heap.size 3 1 vp 0 (ic []) ∧ Below w.heap.size w wr) (fun _ _ _ _ => 0)
  case atStart => exact ⟨rfl, rfl, rfl, hown1, (Below.refl _ _).grown hg1 (Nat.le_refl _) (fun k hk => by cases hk)⟩
  case round =>
    obtain ⟨rfl, rfl, rfl, hop, hB⟩ := hrel
    clear hown1 hg1
    have hgs : w.heap.size < wr.heap.size := (hop.lt _ rfl).2
    go_wp2_with (at_builtin; go_must (refine wpList_append_fits _ rfl (.tmp 34) (.tmp 37) 37 rfl w.heap.size 3 i3 1 Try.underlying37 hi3 hs3 w.heap.size 0 1 (ic []) rfl (hop.alloc _) ⟨wr.heap.size, 0, none⟩ 1 1 (ic [0]) rfl rfl (cell_one_new _ _ _) (ic_one _) (by omega) ?_; intro w2 hown2 hg2))
    go_ret2
    exact ⟨_, rfl, (hB.alloc (Nat.le_of_lt hgs) _).grown hg2 (by simp; omega) (fun k hk => by have := Option.some.inj hk; omega)⟩

set_option maxHeartbeats 2000000 in
/-- No items. -/
theorem walks_zero (ao : Option Addr) (cap : Nat) (hnil : ao = none → cap = 0) (w : World) :
    Calls Try.prog 6 #[.slice ao 0 cap] w fun e w' => e = .returned (.bool true) ∧ Below w.heap.size w w' := by
  have hIn : ItemsIn w ao [] := Or.inl rfl
  have H24 := hide (bytes24 ao cap 0 [] w hIn rfl (Nat.zero_le _) (fun j h => absurd h (by simp)))
  have H16 := hide (kinds16 ao cap 0 [] w hIn rfl (by omega))
  have H15 := hide (big15 ao cap 0 0 [] w hIn rfl (by omega) (by omega) (by omega) (by simp [total]))
  have H17 : Hid (Calls Try.prog 17 #[.slice ao 0 cap] w fun e w' => (∃ ao', e = .returned (.slice ao' 0 0)) ∧ Below w.heap.size w w') := by
    cases ao with
    | none => obtain rfl := hnil rfl; exact (clone17_nil w).mono fun e w' h => ⟨⟨_, h.1⟩, h.2⟩
    | some a => exact (clone17_z a cap w).mono fun e w' h => ⟨⟨_, h.1⟩, h.2⟩
  clear hnil hIn
  go_enter Try.func6, Try.ntmps6
  go_wp2_with fail
  refine (unhide H24).mono ?_
  rintro e w1 ⟨⟨r, rfl, hr⟩, hw⟩
  rw [hw]
  clear hw hr
  cases r with
  | false =>
    go_wp2_with fail
    go_ret
    exact ⟨rfl, Below.refl _ _⟩
  | true =>
  go_wp2_with fail
  refine (unhide H15).mono ?_
  rintro e w1 ⟨⟨r, rfl, hr⟩, hw⟩
  rw [hw]
  clear hw hr
  cases r with
  | true =>
    go_wp2_with fail
    go_ret
    exact ⟨rfl, Below.refl _ _⟩
  | false =>
  go_wp2_with fail
  refine (unhide H16).mono ?_
  rintro e w1 ⟨⟨r, rfl, hr⟩, hw⟩
  rw [hw]
  clear hw hr
  cases r with
  | false =>
    go_wp2_with fail
    go_ret
    exact ⟨rfl, Below.refl _ _⟩
  | true =>
  go_wp2_with fail
  refine (unhide H17).mono ?_
  rintro e w1 ⟨⟨ao', rfl⟩, hB1⟩
  go_wp2_with fail
  refine (encode_z ao' 0 w1).mono ?_
  rintro e w2 ⟨vp, rfl, hB2⟩
  go_wp2_with fail
  refine (blocks_nil w2).mono ?_
  rintro e w3 ⟨rfl, rfl⟩
  go_wp2_with fail
  refine (newTape_any _ _ _ _ w3).mono ?_
  rintro e w4 ⟨rfl, hw4⟩
  have hB4 : Below w.heap.size w w4 := by rw [hw4]; exact (hB1.trans (hB2.mono hB1.size)).alloc (Nat.le_trans hB1.size hB2.size) _
  clear hw4
  go_wp2_with fail
  have hB5 : ∀ k, Below w.heap.size w (w4.alloc k) := fun k => hB4.alloc hB4.size _
  go_loopw [7, 8] (fun p i wr => p = .int .i64 0 ∧ i = .int .i64 0 ∧ Below w.heap.size w wr) (fun _ _ _ => 0)
  case atStart => exact ⟨rfl, rfl, hB5 _⟩
  case round =>
    obtain ⟨rfl, rfl, hB⟩ := hrel
    go_wp2
    go_ret
    exact ⟨rfl, hB⟩
end Go.Proofs.Qxb6604427a

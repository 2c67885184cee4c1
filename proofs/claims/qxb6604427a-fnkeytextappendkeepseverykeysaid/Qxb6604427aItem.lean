/-
  zzAppendItem (26): one item appended to a slice of bytes that the call owns.
-/
import Derived.Test.Qxb6604427aRows
import Derived.Test.Qxb6604427aPlain
import Derived.Test.Qxb6604427aApp
import Derived.Test.Qxb6604427aBits
import Derived.WalkKit
import Derived.WalkSpells
import Derived.WalkLawsBesides
namespace Go.Proofs.Qxb6604427a
open Go Go.RowKit

/-- Bytes as cells. -/
def bc (l : List Nat) : List Value := l.map fun b : Nat => Value.int .u8 (b : Int)
theorem bc_append (a b : List Nat) : bc (a ++ b) = bc a ++ bc b := by simp [bc]
theorem bc_len (a : List Nat) : (bc a).length = a.length := by simp [bc]
theorem byteCells_eq (s : ByteArray) : byteCells s = bc (bs s) := by simp [byteCells, bc, bs]
theorem bc_one (a : List Nat) : ∀ u ∈ bc a, u.oneCell' = true := by
  intro u hu; obtain ⟨_, _, rfl⟩ := List.mem_map.1 hu; rfl

theorem hide {p : Prop} (h : p) : Hid p := h
theorem unhide {p : Prop} (h : Hid p) : p := h

/-- What an append, or several, do to the world: the slice's own block alone is written; it lies there still, or in a new block. -/
structure Grew (w w' : World) (v v' : Value) : Prop where
  g : w.grownBy w' v.ownBlock
  lies : v'.ownBlock = v.ownBlock ∨ ∃ k, v'.ownBlock = some k ∧ w.heap.size ≤ k

theorem Grew.refl (w : World) (v : Value) : Grew w w v v := ⟨World.grownBy.refl _ _, Or.inl rfl⟩
theorem Grew.alloc {w w' : World} {v v' : Value} (h : Grew w w' v v') (o : Obj) : Grew w (w'.alloc o) v v' :=
  ⟨⟨h.g.os, h.g.tape, h.g.output, by have := h.g.size; simp; omega, fun k hk hn => (Below.heap_alloc w' o k (Nat.lt_of_lt_of_le hk h.g.size)).trans (h.g.block k hk hn)⟩, h.lies⟩
theorem Grew.app {w w1 w2 : World} {v v1 v2 : Value} (h : Grew w w1 v v1) (hg : w1.grownBy w2 v1.ownBlock) (hl : v2.ownBlock = v1.ownBlock ∨ v2.ownBlock = some w1.heap.size) : Grew w w2 v v2 := by
  refine ⟨⟨hg.os.trans h.g.os, hg.tape.trans h.g.tape, hg.output.trans h.g.output, Nat.le_trans h.g.size hg.size, fun k hk hn => ?_⟩, ?_⟩
  · refine (hg.block k (Nat.lt_of_lt_of_le hk h.g.size) (fun e => ?_)).trans (h.g.block k hk hn)
    rcases h.lies with hv | ⟨j, hj, hjk⟩
    · exact hn (e.trans hv)
    · rw [hj] at e; have := Option.some.inj e; omega
  · rcases hl with hl | hl
    · rw [hl]; exact h.lies
    · exact Or.inr ⟨_, hl, h.g.size⟩

theorem Try.info5 : (Try.prog.info? 5).map (fun i => (i.zero, i.size, i.bytes)) = some (some (.int .u8 0), 1, 1) := by kernel_rfl


theorem src_one (w : World) (x : Nat) : Src Try.prog 1 29 (.slice (some ⟨w.heap.size, 0, none⟩) 1 1) 1 (bc [x]) (w.alloc (.cells #[.int .u8 (x : Int)] 5)) :=
  Src.ofSlice _ Try.underlying29 _ _ _ _ rfl (cell_one_new _ _ _) (bc_one _)
theorem src_text (w : World) (s : ByteArray) : Src Try.prog 1 9 (.string s) s.size (bc (bs s)) w := by rw [← byteCells_eq]; exact Src.ofString _ Try.underlying9 s

theorem own_cast {w : World} {B : Nat} {v : Value} {n : Nat} {xs : List Nat} {l : List Value} (h : w.ownsRow B 5 1 v n l) (hn : n = xs.length) (hl : l = bc xs) : w.ownsRow B 5 1 v xs.length (bc xs) := by
  rw [← hn, ← hl]; exact h

set_option maxHeartbeats 400000 in
theorem item_short (B : Nat) (v : Value) (xs : List Nat) (k : Nat) (s : ByteArray) (w : World) (hk : k ≤ 15) (hown : w.ownsRow B 5 1 v xs.length (bc xs)) (hB : B ≤ w.heap.size)
    (hx : xs.length ≤ 1073741824) (hs : (s.size : Int) < 15) :
    Calls Try.prog 26 #[v, .int .u8 k, .string s] w fun e w' => ∃ v', e = .returned v' ∧ w'.ownsRow B 5 1 v' (xs ++ enc k (bs s)).length (bc (xs ++ enc k (bs s))) ∧ Grew w w' v v' := by
  obtain ⟨hd, hhd⟩ : ∃ hd : Nat, hd = k + 16 * s.size := ⟨_, rfl⟩
  have hor : bits .or .u8 (k : Int) ((s.size : Int) * 16) = (hd : Int) := by rw [hhd]; exact or_head k s.size hk (by omega)
  have HD : Hid (hd = k + 16 * s.size) := hhd
  clear hhd
  go_enter Try.func26, Try.ntmps26
  go_wp2_with (first | (at_builtin; have _t := hor; go_must (refine wpList_append_src _ rfl (.tmp 13) (.tmp 19) 29 29 rfl B 5 (.int .u8 0) 1 1 Try.underlying29 Try.info5 rfl v xs.length (bc xs) rfl (hown.alloc _) _ 1 (bc [hd]) rfl (src_one w hd) (by unfold maxLen; omega) (by omega) (by simp; omega) ?_; clear hor; intro v1 w1 hown1 hg1 hl1 hc1)) | (at_builtin; go_must (refine wpList_append_src _ rfl (.tmp 44) (.tmp 45) 29 9 rfl B 5 (.int .u8 0) 1 1 Try.underlying29 Try.info5 rfl v1 _ _ rfl hown1 _ s.size (bc (bs s)) rfl (src_text _ s) (by unfold maxLen; omega) (by omega) (by have := hg1.size; simp at this; omega) ?_; intro v2 w2 hown2 hg2 hl2 hc2)))
  go_ret
  refine ⟨v2, rfl, ?_, (((Grew.refl w v).alloc _).app hg1 hl1).app hg2 hl2⟩
  have e : enc k (bs s) = hd :: bs s := by unfold enc; rw [if_pos (by rw [bs_len]; omega), bs_len, ← HD.out]
  rw [e]
  exact own_cast hown2 (by simp [bs_len]; omega) (by simp [bc])

set_option maxRecDepth 100000 in
set_option maxHeartbeats 1000000 in
theorem item_long (B : Nat) (v : Value) (xs : List Nat) (k : Nat) (s : ByteArray) (w : World) (hk : k ≤ 15) (hown : w.ownsRow B 5 1 v xs.length (bc xs)) (hB : B ≤ w.heap.size)
    (hx : xs.length ≤ 1073741824) (hs : 15 ≤ (s.size : Int)) (hs2 : (s.size : Int) ≤ 1073741824) :
    Calls Try.prog 26 #[v, .int .u8 k, .string s] w fun e w' => ∃ v', e = .returned v' ∧ w'.ownsRow B 5 1 v' (xs ++ enc k (bs s)).length (bc (xs ++ enc k (bs s))) ∧ Grew w w' v v' := by
  obtain ⟨hd, hhd⟩ : ∃ hd : Nat, hd = k + 240 := ⟨_, rfl⟩
  have hor : bits .or .u8 (k : Int) 240 = (hd : Int) := by rw [hhd]; exact or_240 k hk
  have HD : Hid (hd = k + 240) := hhd
  clear hhd
  have hul := uv_len (s.size - 15)
  go_enter Try.func26, Try.ntmps26
  go_wp2_with (at_builtin; have _t := hor; go_must (refine wpList_append_src _ rfl (.tmp 21) (.tmp 24) 29 29 rfl B 5 (.int .u8 0) 1 1 Try.underlying29 Try.info5 rfl v xs.length (bc xs) rfl (hown.alloc _) _ 1 (bc [hd]) rfl (src_one w hd) (by unfold maxLen; omega) (by omega) (by simp; omega) ?_; clear hor; intro v1 w1 hown1 hg1 hl1 hc1))
  go_loopw [0, 8] (fun v1 u wr => ∃ (pre : List Nat) (m : Nat), u = .int .u64 m ∧ Hid (uv (s.size - 15) = pre ++ uv m) ∧ wr.ownsRow B 5 1 v1 (xs ++ hd :: pre).length (bc (xs ++ hd :: pre)) ∧ Grew w wr v v1 ∧ m ≤ 1073741824) (fun _ u _ => (intOf u).toNat)
  case atStart =>
    refine ⟨[], s.size - 15, ?_, rfl, own_cast hown1 (by simp) (by simp [bc]), ((Grew.refl w v).alloc _).app hg1 hl1, by omega⟩
    go_num
  case round =>
    obtain ⟨pre, m, rfl, hpre, hownr, hgr, hm⟩ := hrel
    clear hown1 hg1 hl1 hc1
    have hB' : B ≤ wr.heap.size := Nat.le_trans hB hgr.g.size
    by_cases hlt : (m : Int) < 128
    · have hum : uv m = [m] := uv_small (by omega)
      have hlen : (xs ++ hd :: pre).length ≤ 3221225472 := by
        have h1 := congrArg List.length hpre.out
        simp only [List.length_append, List.length_cons] at h1 ⊢
        omega
      have HU := hide hum
      clear hum
      go_wp2_with (first | (at_builtin; have _t := hownr; go_must (refine wpList_append_src _ rfl (.tmp 39) (.tmp 42) 29 29 rfl B 5 (.int .u8 0) 1 1 Try.underlying29 Try.info5 rfl _ _ _ rfl (hownr.alloc _) _ 1 (bc [m]) rfl (src_one wr m) (by unfold maxLen; omega) (by omega) (by simp; omega) ?_; clear hownr; intro v3 w3 hown3 hg3 hl3 hc3)) | (at_builtin; go_must (refine wpList_append_src _ rfl (.tmp 44) (.tmp 45) 29 9 rfl B 5 (.int .u8 0) 1 1 Try.underlying29 Try.info5 rfl v3 _ _ rfl hown3 _ s.size (bc (bs s)) rfl (src_text _ s) (by unfold maxLen; omega) (by omega) (by have := hg3.size; simp at this; omega) ?_; intro v4 w4 hown4 hg4 hl4 hc4)))
      go_ret
      refine ⟨v4, rfl, ?_, ((hgr.alloc _).app hg3 hl3).app hg4 hl4⟩
      have e : enc k (bs s) = hd :: (pre ++ [m] ++ bs s) := by unfold enc; rw [if_neg (by rw [bs_len]; omega), bs_len, ← HD.out, hpre.out, HU.out]
      rw [e]
      exact own_cast hown4 (by simp [bs_len]; omega) (by simp [bc])
    · obtain ⟨c, hc⟩ : ∃ c : Nat, c = m % 128 + 128 := ⟨_, rfl⟩
      have hor : bits .or .u8 ((m : Int) % 256) 128 = (c : Int) := by
        have h1 : (m : Int) % 256 = ((m % 256 : Nat) : Int) := by omega
        rw [h1, or_128 _ (by omega), hc]; omega
      have HC := hide hc
      clear hc
      have hum := uv_big (u := m) (by omega)
      have HU := hide hum
      clear hum
      have hlen : (xs ++ hd :: pre).length ≤ 3221225472 := by
        have h1 := congrArg List.length hpre.out
        simp only [List.length_append, List.length_cons] at h1 ⊢
        omega
      go_wp2_with (at_builtin; have _t := hownr; go_must (refine wpList_append_src _ rfl (.tmp 31) (.tmp 35) 29 29 rfl B 5 (.int .u8 0) 1 1 Try.underlying29 Try.info5 rfl _ _ _ rfl (hownr.alloc _) _ 1 (bc [c]) rfl (src_one wr c) (by unfold maxLen; omega) (by omega) (by simp; omega) ?_; clear hownr; intro v3 w3 hown3 hg3 hl3 hc3))
      go_roundw
      case rel =>
        refine ⟨pre ++ [c], m / 128, by go_num, ?_, own_cast hown3 (by simp; omega) (by simp [bc]), (hgr.alloc _).app hg3 hl3, by omega⟩
        show uv (s.size - 15) = _
        rw [hpre.out, HU.out, HC.out]; simp
      case measure => simp [intOf]; omega

/-- zzAppendItem. -/
theorem item_any (B : Nat) (v : Value) (xs : List Nat) (k : Nat) (s : ByteArray) (w : World) (hk : k ≤ 15) (hown : w.ownsRow B 5 1 v xs.length (bc xs)) (hB : B ≤ w.heap.size)
    (hx : xs.length ≤ 1073741824) (hs2 : s.size ≤ 1073741824) :
    Calls Try.prog 26 #[v, .int .u8 k, .string s] w fun e w' => ∃ v', e = .returned v' ∧ w'.ownsRow B 5 1 v' (xs ++ enc k (bs s)).length (bc (xs ++ enc k (bs s))) ∧ Grew w w' v v' := by
  by_cases hs : (s.size : Int) < 15
  · exact item_short B v xs k s w hk hown hB hx hs
  · exact item_long B v xs k s w hk hown hB hx (by omega) (by omega)
end Go.Proofs.Qxb6604427a

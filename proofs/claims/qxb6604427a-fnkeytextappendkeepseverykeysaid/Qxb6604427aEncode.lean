/-
  zzEncode (19): the items laid one after another, and the place of each.
-/
import Derived.Test.Qxb6604427aItem
import Derived.Deep.RegionHeld3
import Derived.Deep.DrawnRows
import Derived.Deep.DeepCutAuto
namespace Go.Proofs.Qxb6604427a
open Go Go.RowKit

/-- Numbers as cells. -/
def ic (l : List Nat) : List Value := l.map fun b : Nat => Value.int .i64 (b : Int)
theorem ic_one (a : List Nat) : ∀ u ∈ ic a, u.oneCell' = true := by
  intro u hu; obtain ⟨_, _, rfl⟩ := List.mem_map.1 hu; rfl
theorem Try.info3 : (Try.prog.info? 3).map (fun i => (i.zero, i.size, i.bytes)) = some (some (.int .i64 0), 1, 8) := by kernel_rfl

/-- The items lie in block g. -/
def ItemsAt (w : World) (g : Nat) (l : List (Nat × ByteArray)) : Prop := ∀ j (h : j < l.length), w.cell? ⟨g, j * 2, none⟩ = some (.int .u8 (l[j].1 : Int)) ∧ w.cell? ⟨g, j * 2 + 1, none⟩ = some (.string l[j].2)

theorem ItemsAt.block {w w' : World} {g : Nat} {l : List (Nat × ByteArray)} (h : ItemsAt w g l) (hb : w'.heap[g]? = w.heap[g]?) : ItemsAt w' g l := fun j hj =>
  ⟨(World.cell?_of_block (a := ⟨g, j * 2, none⟩) hb).trans (h j hj).1, (World.cell?_of_block (a := ⟨g, j * 2 + 1, none⟩) hb).trans (h j hj).2⟩

set_option maxRecDepth 100000
attribute [local go_sem ↓] Go.wp_at_zero Go.wp_at_succ

theorem src_oneI (w : World) (x : Nat) : Src Try.prog 1 37 (.slice (some ⟨w.heap.size, 0, none⟩) 1 1) 1 (ic [x]) (w.alloc (.cells #[.int .i64 (x : Int)] 3)) :=
  Src.ofSlice _ Try.underlying37 _ _ _ _ rfl (cell_one_new _ _ _) (ic_one _)

theorem cell_alloc {W : World} {p : Addr} {v : Value} (h : W.cell? p = some v) (o : Obj) : (W.alloc o).cell? p = some v := by
  rw [World.cell?_alloc_lt _ _ _ (World.block_lt_of_cell? W _ h)]; exact h
theorem own_shape {w : World} {B e sz n : Nat} {v : Value} {xs : List Value} (h : w.ownsRow B e sz v n xs) : ∃ ao c, v = .slice ao n c := by
  rcases h.2 with ⟨rfl, rfl⟩ | ⟨g, cap, _, rfl, _⟩
  · exact ⟨_, _, rfl⟩
  · exact ⟨_, _, rfl⟩

set_option maxHeartbeats 1000000 in
theorem encode_any (g n : Nat) (l : List (Nat × ByteArray)) (w : World) (hI : ItemsAt w g l) (hn : l.length = n) (hg : g < w.heap.size) (hk : ∀ j (h : j < l.length), l[j].1 ≤ 15) (hn2 : (n : Int) ≤ 1048576) (ht : total l ≤ 1048576) :
    Calls Try.prog 19 #[.slice (some ⟨g, 0, none⟩) n n] w fun e w' => ∃ vf vp, e = .returned (.tuple #[vf, vp]) ∧ w'.ownsRow (w.heap.size + 1) 5 1 vf (encAll l).length (bc (encAll l)) ∧
      vp = .slice (some ⟨w.heap.size, 0, none⟩) (n + 1) (n + 1) ∧ w'.ownsRow w.heap.size 3 1 vp (n + 1) (ic (places l (n + 1))) ∧ Below w.heap.size w w' := by
  obtain ⟨i3, hi3, hz3, hs3, hb3⟩ := info_parts Try.info3
  go_enter Try.func19, Try.ntmps19
  go_wp2_with (at_make; go_must (refine wpList_make_own _ rfl _ _ 37 rfl w.heap.size 3 i3 (.int .i64 0) 1 Try.underlying37 hi3 hz3 hs3 .i64 .i64 _ (n + 1) rfl rfl (by go_num) (by rw [hb3]; omega) (by unfold maxLen; omega) (Nat.le_refl _) ?_; intro w1 hown1 hg1))
  go_loopw [4, 5, 6] (fun vf vp i wr => ∃ j : Nat, j ≤ n ∧ i = .int .i64 j ∧ wr.ownsRow (w.heap.size + 1) 5 1 vf (place l j) (bc (encAll (l.take j))) ∧ vp = .slice (some ⟨w.heap.size, 0, none⟩) j (n + 1) ∧ wr.ownsRow w.heap.size 3 1 vp j (ic (places l j)) ∧ Below w.heap.size w wr)
    (fun _ _ i _ => n - (intOf i).toNat)
  case atStart => exact ⟨0, Nat.zero_le _, rfl, World.ownsRow_nil _ _ _ _, rfl, hown1, (Below.refl _ _).grown hg1 (Nat.le_refl _) (fun k hk => by cases hk)⟩
  case round =>
    obtain ⟨j, hj, rfl, hof, rfl, hop, hB⟩ := hrel
    clear hown1 hg1
    obtain ⟨ao, c, rfl⟩ := own_shape hof
    have hpl := place_le l j (by omega)
    have htk := total_take l j
    have hgs : w.heap.size < wr.heap.size := (hop.lt _ rfl).2
    by_cases hlt : (j : Int) < (n : Int)
    · have hj' : j < l.length := by omega
      obtain ⟨ck, cs⟩ := hI.block (hB.block g hg) j hj'
      have hsz := size_le l j hj'
      have hkj := hk j hj'
      have HF := hide (encAll_snoc l j hj')
      generalize hx : l[j] = x at *
      obtain ⟨k, s⟩ := x
      simp only at ck cs hsz hkj
      have HX := hide hx
      clear hx
      go_wp2_with (at_builtin; go_must (refine wpList_append_fits _ rfl (.tmp 17) (.tmp 20) 37 rfl w.heap.size 3 i3 1 Try.underlying37 hi3 hs3 w.heap.size j (n + 1) (ic (places l j)) rfl (hop.alloc _) ⟨wr.heap.size, 0, none⟩ 1 1 (ic [place l j]) rfl rfl (cell_one_new _ _ _) (ic_one _) (by omega) ?_; intro w2 hown2 hg2))
      have hneW : (Value.slice ao (place l j) c).ownBlock ≠ some w.heap.size := fun h => by have := (hof.lt _ h).1; omega
      have hneg : some g ≠ (Value.slice ao (place l j) c).ownBlock := fun h => by have := (hof.lt _ h.symm).1; omega
      have hof2 : w2.ownsRow (w.heap.size + 1) 5 1 (.slice ao (place l j) c) (encAll (l.take j)).length (bc (encAll (l.take j))) := (hof.alloc _).kept hg2 (Or.inr hneW)
      have hB2 : Below w.heap.size w w2 := (hB.alloc (Nat.le_of_lt hgs) _).grown hg2 (by simp; omega) (fun k hk => by have := Option.some.inj hk; omega)
      have hg2s : wr.heap.size + 1 ≤ w2.heap.size := by have := hg2.size; simpa using this
      have ck2 : w2.cell? ⟨g, j * 2, none⟩ = some (.int .u8 k) := (hg2.cell (cell_alloc ck _) (by simp; omega))
      have cs2 : w2.cell? ⟨g, j * 2 + 1, none⟩ = some (.string s) := (hg2.cell (cell_alloc cs _) (by simp; omega))
      have C26 := hide (item_any (w.heap.size + 1) (.slice ao (place l j) c) (encAll (l.take j)) k s w2.drew hkj hof2 (by simp; omega) (show place l j ≤ _ by omega) (by omega))
      clear hof hop hB ck cs hg2
      have h0j : (0 : Int) ≤ (j : Int) := by omega
      go_region_held3 (fun w' => w'.cell? ⟨g, j * 2, none⟩ = some (.int .u8 k) ∧ w'.cell? ⟨g, j * 2 + 1, none⟩ = some (.string s))
        (first | exact ⟨ck2, cs2⟩ | exact ⟨hgr3.g.cell ck2 hneg, hgr3.g.cell cs2 hneg⟩)
        ((go_at_call 26; go_must (refine (unhide C26).mono ?_; rintro e w3 ⟨v3, rfl, hown3, hgr3⟩)))
      go_wp2
      go_roundw
      case rel =>
        refine ⟨j + 1, by omega, by go_num, ?_, rfl, ?_, ?_⟩
        · have e : encAll (l.take (j + 1)) = encAll (l.take j) ++ enc k (bs s) := HF.out
          unfold place
          rw [e]; exact hown3
        · have h := hown2.drew.kept hgr3.g (Or.inr (fun h => hneW h.symm))
          rw [places_succ]
          simpa [ic] using h
        · exact hB2.drew.grown hgr3.g (by simp; omega) (fun q hq => by have := (hof2.lt q hq).1; omega)
      case measure => simp [intOf]; omega
    · have hjn : j = n := by omega
      subst hjn
      have HL := hide (show l.take j = l from List.take_of_length_le (by omega))
      go_wp2_with (at_builtin; go_must (refine wpList_append_fits _ rfl (.tmp 34) (.tmp 37) 37 rfl w.heap.size 3 i3 1 Try.underlying37 hi3 hs3 w.heap.size j (j + 1) (ic (places l j)) rfl (hop.alloc _) ⟨wr.heap.size, 0, none⟩ 1 1 (ic [place l j]) rfl rfl (cell_one_new _ _ _) (ic_one _) (by omega) ?_; intro w2 hown2 hg2))
      go_ret2
      have hneW : (Value.slice ao (place l j) c).ownBlock ≠ some w.heap.size := fun h => by have := (hof.lt _ h).1; omega
      have hof2 : w2.ownsRow (w.heap.size + 1) 5 1 (.slice ao (place l j) c) (encAll (l.take j)).length (bc (encAll (l.take j))) := (hof.alloc _).kept hg2 (Or.inr hneW)
      have hB2 : Below w.heap.size w w2 := (hB.alloc (Nat.le_of_lt hgs) _).grown hg2 (by simp; omega) (fun k hk => by have := Option.some.inj hk; omega)
      rw [HL.out] at hof2
      refine ⟨_, _, rfl, hof2, rfl, ?_, hB2⟩
      rw [places_succ]
      simpa [ic] using hown2
end Go.Proofs.Qxb6604427a

/-
  ZZnewKeySets (27), zzBuildKeySets (10).
-/
import Derived.Test.Qxb6604427aKeyText
namespace Go.Proofs.Qxb6604427a
open Go Go.RowKit
set_option maxRecDepth 100000
attribute [local go_sem ↓] Go.wp_at_zero Go.wp_at_succ

set_option maxHeartbeats 1000000 in
theorem newKeys27 (vb vs : Option Addr) (m c m' c' : Nat) (n n' a1 a2 a3 a4 a5 a6 : Int) (w : World) :
    Calls Try.prog 27 #[.slice vb m c, .int .i64 n, .slice vs m' c', .int .i64 n', .int .i64 a1, .int .i64 a2, .int .i64 a3, .int .i64 a4, .int .i64 a5, .int .i64 a6] w fun e w' => e = .returned (.pointer (some ⟨w.heap.size + 1, 0, none⟩)) ∧
      w' = (w.alloc (.cells #[.int .i64 a1, .int .i64 a2, .int .i64 a3, .pointer none, .int .u64 0, .int .i64 a4, .int .i64 a5, .int .i64 a6, .pointer none, .int .u64 0] 61)).alloc
        (.cells #[.slice vb m c, .int .i64 n, .slice vs m' c', .int .i64 n', .slice (some ⟨w.heap.size, 0, none⟩) 2 2, .slice none 0 0, .slice none 0 0] 70) := by
  go_enter Try.func27, Try.ntmps27
  go_wp2_with fail
  go_ret
  exact ⟨rfl, rfl⟩

/-- The items of a key set's tape. -/
def keysOf (k : Nat) (A B : List ByteArray) : List (Nat × ByteArray) := (A ++ B).map fun s => (k, s)
theorem keysOf_len (k : Nat) (A B : List ByteArray) : (keysOf k A B).length = A.length + B.length := by simp [keysOf]
theorem keysOf_kind (k : Nat) (A B : List ByteArray) (j : Nat) (h : j < (keysOf k A B).length) : (keysOf k A B)[j].1 = k := by simp only [keysOf, List.getElem_map]
theorem keysOf_left (k : Nat) (A B : List ByteArray) (j : Nat) (h : j < A.length) (h' : j < (keysOf k A B).length) : (keysOf k A B)[j] = (k, A[j]) := by
  simp only [keysOf, List.getElem_map, List.getElem_append_left h]
theorem keysOf_right (k : Nat) (A B : List ByteArray) (j : Nat) (h : j < B.length) (h' : A.length + j < (keysOf k A B).length) : (keysOf k A B)[A.length + j] = (k, B[j]) := by
  simp [keysOf]
theorem keysOf_total (k : Nat) (A B : List ByteArray) : total (keysOf k A B) = stot A + stot B := by
  simp [keysOf, total, stot, Function.comp_def]

/-- The places of the sixteenth, the thirty-second .. key among the first j from a on. -/
def st (l : List (Nat × ByteArray)) (a j : Nat) : List Nat := (List.range ((j - 1) / 16)).map fun i => place l (a + 16 * (i + 1))
theorem st_len (l : List (Nat × ByteArray)) (a j : Nat) : (st l a j).length = (j - 1) / 16 := by simp [st]
theorem st_same (l : List (Nat × ByteArray)) (a j : Nat) (h : ¬ (0 < j ∧ j % 16 = 0)) : st l a (j + 1) = st l a j := by
  unfold st; rw [show (j + 1 - 1) / 16 = (j - 1) / 16 by omega]
theorem st_more (l : List (Nat × ByteArray)) (a j : Nat) (h : 0 < j ∧ j % 16 = 0) : st l a (j + 1) = st l a j ++ [place l (a + j)] := by
  unfold st; rw [show (j + 1 - 1) / 16 = (j - 1) / 16 + 1 by omega, List.range_succ, List.map_append, List.map_singleton, show 16 * ((j - 1) / 16 + 1) = j by omega]

/-- What holds ahead of each round. -/
structure BuildInv (w wr : World) (vf vs : Value) (l : List (Nat × ByteArray)) (j : Nat) (X : List Nat) : Prop where
  f : wr.ownsRow w.heap.size 5 1 vf (place l j) (bc (encAll (l.take j)))
  s : wr.ownsRow w.heap.size 3 1 vs X.length (ic X)
  two : ∀ g, vf.ownBlock = some g → vs.ownBlock ≠ some g
  b : Below w.heap.size w wr

theorem BuildInv.stop {w wr w1 : World} {vf vs v1 : Value} {l : List (Nat × ByteArray)} {j p : Nat} {X : List Nat} {o : Obj} (h : BuildInv w wr vf vs l j X) (h1 : w1.ownsRow w.heap.size 3 1 v1 (X.length + 1) (ic X ++ ic [p])) (hg : (wr.alloc o).grownBy w1 vs.ownBlock)
    (hl : v1.ownBlock = vs.ownBlock ∨ v1.ownBlock = some (wr.alloc o).heap.size) : BuildInv w w1 vf v1 l j (X ++ [p]) := by
  have hs := h.b.size
  refine ⟨(h.f.alloc o).kept hg ?_, by simpa [ic] using h1, fun g hf => ?_, (h.b.alloc h.b.size o).grown hg (by simp; omega) (fun k hk => (h.s.lt k hk).1)⟩
  · cases hv : vf.ownBlock with
    | none => exact Or.inl rfl
    | some g => exact Or.inr (fun e => h.two g hv e.symm)
  · rcases hl with hl | hl
    · rw [hl]; exact h.two g hf
    · rw [hl]
      have := (h.f.lt g hf).2
      intro e
      have e := Option.some.inj e
      simp at e
      omega

theorem BuildInv.item {w wr w1 : World} {vf vs v1 : Value} {l : List (Nat × ByteArray)} {j k : Nat} {s : ByteArray} {X : List Nat} (h : BuildInv w wr vf vs l j X) (he : encAll (l.take (j + 1)) = encAll (l.take j) ++ enc k (bs s))
    (h1 : w1.ownsRow w.heap.size 5 1 v1 (encAll (l.take j) ++ enc k (bs s)).length (bc (encAll (l.take j) ++ enc k (bs s)))) (hg : Grew wr w1 vf v1) : BuildInv w w1 v1 vs l (j + 1) X := by
  refine ⟨by unfold place; rw [he]; exact h1, h.s.kept hg.g ?_, fun g hf => ?_, h.b.grown hg.g h.b.size (fun k hk => (h.f.lt k hk).1)⟩
  · cases hv : vs.ownBlock with
    | none => exact Or.inl rfl
    | some g => exact Or.inr (fun e => h.two g e.symm hv)
  · rcases hg.lies with hl | ⟨q, hq, hl⟩
    · rw [hl] at hf; exact h.two g hf
    · rw [hq] at hf
      have := Option.some.inj hf
      intro e
      have := (h.s.lt g e).2
      omega
theorem BuildInv.alloc {w wr : World} {vf vs : Value} {l : List (Nat × ByteArray)} {j : Nat} {X : List Nat} (h : BuildInv w wr vf vs l j X) (o : Obj) : BuildInv w (wr.alloc o) vf vs l j X := ⟨h.f.alloc o, h.s.alloc o, h.two, h.b.alloc h.b.size o⟩
theorem BuildInv.drew {w wr : World} {vf vs : Value} {l : List (Nat × ByteArray)} {j : Nat} {X : List Nat} (h : BuildInv w wr vf vs l j X) : BuildInv w wr.drew vf vs l j X := ⟨h.f, h.s, h.two, h.b.drew⟩

theorem tape_cells {w5 : World} {W N : Nat} {vb : Value} {gs : Nat → Nat} (hN : 0 < N) (hob : w5.ownsRow W 29 1 vb (nb N) (bv gs N (nb N))) :
    ∃ gb c, vb = .slice (some ⟨gb, 0, none⟩) (nb N) c ∧ W ≤ gb ∧ gb < w5.heap.size ∧ ∀ q, q < nb N → w5.cell? ⟨gb, q, none⟩ = some (.slice (some ⟨gs q, 0, none⟩) (bl N q) (bl N q)) := by
  have hpos : 0 < nb N := by unfold nb; omega
  rcases hob.2 with ⟨_, h0⟩ | ⟨g, c, cur, rfl, hg1, _⟩
  · omega
  · refine ⟨g, c, rfl, hg1, (hob.lt g rfl).2, fun q hq => ?_⟩
    rw [hob.cellAt q (by omega)]
    simp [bv, hq]

/-- The stop of number i. -/
theorem stop_at (l : List (Nat × ByteArray)) (X0 : List Nat) (a n i : Nat) (h0 : 0 < i) (h : 16 * i < n) : (X0 ++ st l a n)[X0.length + i - 1]? = some (place l (a + 16 * i)) ∧ X0.length + i - 1 < (X0 ++ st l a n).length := by
  have hl := st_len l a n
  have hlt : i - 1 < (st l a n).length := by rw [hl]; omega
  constructor
  · rw [List.getElem?_append_right (by omega), show X0.length + i - 1 - X0.length = i - 1 by omega, List.getElem?_eq_getElem hlt]
    simp only [st, List.getElem_map, List.getElem_range]
    rw [show i - 1 + 1 = i by omega]
  · rw [List.length_append]; omega

set_option maxHeartbeats 4000000 in
theorem build10 (ao bo : Option Addr) (ca cb na nk k : Nat) (A B : List ByteArray) (w : World) (hA : StrsIn w ao A) (hB : StrsIn w bo B) (ha : A.length = na) (hb : B.length = nk) (hna : (na : Int) ≤ 65536) (hnk : (nk : Int) ≤ 65536) (hk : k ≤ 15) (ht : stot A + stot B ≤ 1048576) (h0 : 0 < nk) :
    Calls Try.prog 10 #[.slice ao na ca, .slice bo nk cb, .int .u8 k] w fun e w' => ∃ K gb c gs N SG PB TG S0 ns cs, e = .returned (.pointer (some ⟨K, 0, none⟩)) ∧ KeysAt w' K gb c gs N (keysOf k A B) na nk SG PB TG S0 ns cs (.slice none 0 0) ∧ Below w.heap.size w w' ∧ w.heap.size ≤ K ∧ ns ≤ 65536 ∧ N ≤ 16777216 ∧ (encAll (keysOf k A B)).length = N := by
  have hl := keysOf_len k A B
  have HLA := hide (keysOf_left k A B)
  have HLB := hide (keysOf_right k A B)
  have htot := keysOf_total k A B
  have HA := hide hA.lt
  have HB := hide hB.lt
  generalize keysOf k A B = l at *
  have HT := hide (show ∀ j, j ≤ l.length → place l j ≤ 4194304 from fun j hj => by
    have h1 := place_le l j hj
    have h2 := total_take l j
    omega)
  clear hA hB
  go_enter Try.func10, Try.ntmps10
  go_wp2_with fail
  go_loopw [7, 8, 9] (fun vf vs i wr => ∃ j : Nat, j ≤ na ∧ i = .int .i64 j ∧ BuildInv w wr vf vs l j (st l 0 j)) (fun _ _ i _ => na - (intOf i).toNat)
  case atStart => exact ⟨0, Nat.zero_le _, rfl, ⟨World.ownsRow_nil _ _ _ _, World.ownsRow_nil _ _ _ _, fun g h => by simp [Value.ownBlock] at h, Below.refl _ _⟩⟩
  case round =>
    obtain ⟨j, hj, rfl, I1⟩ := hrel
    by_cases hlt : (j : Int) < (na : Int)
    · have hj' : j < A.length := by omega
      have hjl : j < l.length := by omega
      obtain ⟨g, o, rfl, hg, hI⟩ : ∃ g o, ao = some ⟨g, o, none⟩ ∧ g < w.heap.size ∧ ∀ j (h : j < A.length), w.cell? ⟨g, o + j, none⟩ = some (.string A[j]) := by
        rcases HA.out with h | h
        · subst h; simp at hj'
        · exact h
      have ck : wr.cell? ⟨g, o + j, none⟩ = some (.string A[j]) := (I1.b.cell (p := ⟨g, o + j, none⟩) hg).trans (hI j hj')
      have hE0 := encAll_snoc l j hjl
      have hsz := size_le l j hjl
      rw [HLA.out j hj' hjl] at hE0 hsz
      simp only at hE0 hsz
      have hE := hide hE0
      clear hE0 hI
      generalize A[j] = s at *
      obtain ⟨af, cf, rfl⟩ := own_shape I1.f
      have hpl := HT.out j (by omega)
      have hX : (st l 0 j).length ≤ 65536 := by rw [st_len]; omega
      have hsw := I1.b.size
      have hsk : ∀ q, u8.ownBlock = some q → w.heap.size ≤ q := fun q hq => (I1.s.lt q hq).1
      by_cases hs : 0 < j ∧ j % 16 = 0
      · have hd1 : decide ((0 : Int) < (j : Int)) = true := by simp; omega
        have hd2 : ((j : Int) % 16 == 0) = true := by rw [beq_iff_eq]; omega
        have I1s := I1.s
        go_wp2_with (at_builtin; go_must (refine wpList_append_src _ rfl (.tmp 27) (.tmp 30) 37 37 rfl w.heap.size 3 (.int .i64 0) 1 8 Try.underlying37 Try.info3 rfl u8 _ _ rfl (I1s.alloc _) _ 1 (ic [place l j]) rfl (src_oneI wr (place l j)) (by unfold maxLen; omega) (by omega) (by simp; omega) ?_; intro v1 w1 hown1 hg1 hl1 hc1; have ck1 : w1.cell? ⟨g, o + j, none⟩ = some (.string s) := hg1.cell (cell_alloc ck _) (fun e => by have := hsk _ e.symm; simp at this; omega)))
        have I2 := I1.stop hown1 hg1 hl1
        have C26 := hide (item_any w.heap.size (.slice af (place l j) cf) (encAll (l.take j)) k s w1 hk I2.f I2.b.size (show place l j ≤ _ by omega) (by omega))
        have HI2 := hide I2
        have HS := hide (st_more l 0 j hs)
        clear I1 I1s I2 hown1 hg1 hl1 hc1 ck
        refine (unhide C26).mono ?_
        rintro e w2 ⟨v3, rfl, hown3, hgr3⟩
        have I3 := hide (HI2.out.item hE.out hown3 hgr3)
        clear hown3 hgr3
        go_wp2_with fail
        go_roundw
        case rel => exact ⟨j + 1, by omega, by go_num, by rw [HS.out, Nat.zero_add]; exact I3.out⟩
        case measure => simp [intOf]; omega
      · have C26 := hide (item_any w.heap.size (.slice af (place l j) cf) (encAll (l.take j)) k s wr hk I1.f I1.b.size (show place l j ≤ _ by omega) (by omega))
        have HI1 := hide I1
        have HS := hide (st_same l 0 j hs)
        clear I1
        have hd : (0 < j ∧ ((j : Int) % 16 == 0) = false) ∨ ¬ 0 < j := by
          by_cases h : 0 < j
          · left
            refine ⟨h, ?_⟩
            rw [beq_eq_false_iff_ne]
            omega
          · exact Or.inr h
        rcases hd with ⟨hd1, hd2⟩ | hd1
        all_goals
          go_wp2_with fail
          refine (unhide C26).mono ?_
          rintro e w2 ⟨v3, rfl, hown3, hgr3⟩
          have I3 := hide (HI1.out.item hE.out hown3 hgr3)
          clear hown3 hgr3
          go_wp2_with fail
          go_roundw
          case rel => exact ⟨j + 1, by omega, by go_num, by rw [HS.out]; exact I3.out⟩
          case measure => simp [intOf]; omega
    · have hjn : j = na := by omega
      subst hjn
      obtain ⟨af, cf, rfl⟩ := own_shape I1.f
      obtain ⟨az, cs, rfl⟩ := own_shape I1.s
      have hpl := HT.out j (by omega)
      have hX0 := hide (st_len l 0 j)
      generalize hX : st l 0 j = X0 at *
      clear hX
      have HI1 := hide I1
      clear I1 HA HLA
      go_wp2_with fail
      go_loopw [7, 8, 12] (fun vf vs i wr => ∃ q : Nat, q ≤ nk ∧ i = .int .i64 q ∧ BuildInv w wr vf vs l (j + q) (X0 ++ st l j q)) (fun _ _ i _ => nk - (intOf i).toNat)
      case atStart => exact ⟨0, Nat.zero_le _, rfl, by have h := HI1.out; simpa [st] using h⟩
      case round =>
        obtain ⟨q, hq, rfl, I1⟩ := hrel
        clear HI1
        by_cases hlt : (q : Int) < (nk : Int)
        · have hq' : q < B.length := by omega
          have hql : j + q < l.length := by omega
          obtain ⟨g, o, rfl, hg, hI⟩ : ∃ g o, bo = some ⟨g, o, none⟩ ∧ g < w.heap.size ∧ ∀ j (h : j < B.length), w.cell? ⟨g, o + j, none⟩ = some (.string B[j]) := by
            rcases HB.out with h | h
            · subst h; simp at hq'
            · exact h
          have ck : wr.cell? ⟨g, o + q, none⟩ = some (.string B[q]) := (I1.b.cell (p := ⟨g, o + q, none⟩) hg).trans (hI q hq')
          have hE0 := encAll_snoc l (j + q) hql
          have hsz := size_le l (j + q) hql
          have hBq : l[j + q] = (k, B[q]) := by
            have h := HLB.out q hq' (by omega)
            simp only [ha] at h
            exact h
          rw [hBq] at hE0 hsz
          simp only at hE0 hsz
          have hE := hide hE0
          clear hE0 hI hBq
          generalize B[q] = s at *
          obtain ⟨af, cf, rfl⟩ := own_shape I1.f
          have hpl := HT.out (j + q) (by omega)
          have hX : (X0 ++ st l j q).length ≤ 131072 := by rw [List.length_append, st_len, hX0.out]; omega
          have hsw := I1.b.size
          have hsk : ∀ q, u8.ownBlock = some q → w.heap.size ≤ q := fun q hq => (I1.s.lt q hq).1
          by_cases hs : 0 < q ∧ q % 16 = 0
          · have HS := hide (show X0 ++ st l j (q + 1) = (X0 ++ st l j q) ++ [place l (j + q)] by rw [st_more l j q hs, List.append_assoc])
            have hd1 : decide ((0 : Int) < (q : Int)) = true := by simp; omega
            have hd2 : ((q : Int) % 16 == 0) = true := by rw [beq_iff_eq]; omega
            have I1s := I1.s
            generalize X0 ++ st l j q = X at *
            go_wp2_with (at_builtin; go_must (refine wpList_append_src _ rfl (.tmp 56) (.tmp 59) 37 37 rfl w.heap.size 3 (.int .i64 0) 1 8 Try.underlying37 Try.info3 rfl u8 _ _ rfl (I1s.alloc _) _ 1 (ic [place l (j + q)]) rfl (src_oneI wr (place l (j + q))) (by unfold maxLen; omega) (by omega) (by simp; omega) ?_; intro v1 w1 hown1 hg1 hl1 hc1; have ck1 : w1.cell? ⟨g, o + q, none⟩ = some (.string s) := hg1.cell (cell_alloc ck _) (fun e => by have := hsk _ e.symm; simp at this; omega)))
            have I2 := I1.stop hown1 hg1 hl1
            have C26 := hide (item_any w.heap.size (.slice af (place l (j + q)) cf) (encAll (l.take (j + q))) k s w1 hk I2.f I2.b.size (show place l (j + q) ≤ _ by omega) (by omega))
            have HI2 := hide I2
            clear I1 I1s I2 hown1 hg1 hl1 hc1 ck
            refine (unhide C26).mono ?_
            rintro e w2 ⟨v3, rfl, hown3, hgr3⟩
            have I3 := hide (HI2.out.item hE.out hown3 hgr3)
            clear hown3 hgr3
            go_wp2_with fail
            go_roundw
            case rel => exact ⟨q + 1, by omega, by go_num, by rw [HS.out]; exact I3.out⟩
            case measure => simp [intOf]; omega
          · have C26 := hide (item_any w.heap.size (.slice af (place l (j + q)) cf) (encAll (l.take (j + q))) k s wr hk I1.f I1.b.size (show place l (j + q) ≤ _ by omega) (by omega))
            have HI1 := hide I1
            have HS := hide (st_same l j q hs)
            clear I1
            have hd : (0 < q ∧ ((q : Int) % 16 == 0) = false) ∨ ¬ 0 < q := by
              by_cases h : 0 < q
              · left
                refine ⟨h, ?_⟩
                rw [beq_eq_false_iff_ne]
                omega
              · exact Or.inr h
            rcases hd with ⟨hd1, hd2⟩ | hd1
            all_goals
              go_wp2_with fail
              refine (unhide C26).mono ?_
              rintro e w2 ⟨v3, rfl, hown3, hgr3⟩
              have I3 := hide (HI1.out.item hE.out hown3 hgr3)
              clear hown3 hgr3
              go_wp2_with fail
              go_roundw
              case rel => exact ⟨q + 1, by omega, by go_num, by rw [HS.out]; exact I3.out⟩
              case measure => simp [intOf]; omega
        · have hqn : q = nk := by omega
          subst hqn
          have hXl : (X0 ++ st l j q).length ≤ 65536 := by rw [List.length_append, st_len, hX0.out]; omega
          have HSA := hide (stop_at l X0 j q)
          have HX1 := hide (show 16 < q → X0 ++ st l j q ≠ [] from fun h e => by
            have h1 := congrArg List.length e
            rw [List.length_append, st_len] at h1
            simp at h1
            omega)
          generalize X0 ++ st l j q = X at *
          obtain ⟨af2, cf2, rfl⟩ := own_shape I1.f
          obtain ⟨az2, cs2, rfl⟩ := own_shape I1.s
          have hpl2 := HT.out (j + q) (by omega)
          have HI1 := hide I1
          clear I1 HB HLB
          go_upto_if 70 with fail
          go_cut [13] (fun vp wd => ∃ ap np cp, vp = .slice ap np cp ∧ Hid (BuildInv w wd (.slice af2 (place l (j + q)) cf2) (.slice az2 X.length cs2) l (j + q) X) ∧ Hid (X ≠ [] → ∃ PB, ap = some ⟨PB, 0, none⟩ ∧ np = 1 ∧ cp = 1 ∧ wd.cell? ⟨PB, 0, none⟩ = some (.slice az2 X.length cs2)))
          case first =>
            by_cases hX9 : X.length = 0
            · have hd9 : ¬ 0 < X.length := by omega
              have HX9 := hide hX9
              clear hX9
              go_wp2_with fail
              go_meet
              case rel => exact ⟨_, _, _, rfl, HI1, fun h => absurd (List.eq_nil_of_length_eq_zero HX9.out) h⟩
            · have hd9 : 0 < X.length := by omega
              go_wp2_with fail
              go_meet
              case rel => exact ⟨_, _, _, rfl, HI1.out.alloc _, fun _ => ⟨wr.heap.size, rfl, rfl, rfl, by rw [World.cell?_alloc_at _ _ _ _ rfl]; rfl⟩⟩
          case rest =>
          obtain ⟨ap, np, cp, rfl, HI2, HPB⟩ := hcut
          clear HI1
          have I2 := HI2.out
          have htl : l.take (j + q) = l := List.take_of_length_le (by omega)
          have hN0 : 0 < place l (j + q) := by
            have h1 := place_next l (j + q - 1) (by omega)
            have h2 := (enc_len l[j + q - 1].1 (bs l[j + q - 1].2)).2
            rw [show j + q - 1 + 1 = j + q by omega] at h1
            omega
          have HF0 : ∀ p, p < place l (j + q) → wc.cell? ⟨(af2.getD ⟨0, 0, none⟩).block, p, none⟩ = some (.int .u8 (fl l p : Int)) := by
            intro p hp
            rcases I2.f.2 with ⟨_, h0⟩ | ⟨g, c, cur, hv, _⟩
            · omega
            · simp only [Value.slice.injEq] at hv
              obtain ⟨rfl, _, rfl⟩ := hv
              rw [Option.getD_some]
              show wc.cell? ⟨g, p, none⟩ = _
              rw [I2.f.cellAt p (by omega), htl]
              have hp' : p < (encAll l).length := by unfold place at hp; rw [htl] at hp; exact hp
              simp [bc, fl, hp']
          have haf : ∃ gf, af2 = some ⟨gf, 0, none⟩ ∧ gf < wc.heap.size := by
            rcases I2.f.2 with ⟨_, h0⟩ | ⟨g, c, cur, hv, _⟩
            · omega
            · simp only [Value.slice.injEq] at hv
              obtain ⟨rfl, _, rfl⟩ := hv
              exact ⟨g, rfl, (I2.f.lt g rfl).2⟩
          obtain ⟨gf, rfl, hgf⟩ := haf
          have HF := hide HF0
          have HNL := hide (show (encAll l).length = place l (j + q) by unfold place; rw [htl])
          have hwc := I2.b.size
          clear HF0 htl I2
          generalize hN : place l (j + q) = N at *
          have HN := hide hN
          clear hN
          go_wp2_with fail
          refine (blocks_any gf cf2 N (fl l) wc HF.out hgf (by omega)).mono ?_
          rintro e w5 ⟨vb, gs, rfl, hob, hgs, hby, hB5⟩
          obtain ⟨gb, cc, rfl, hgb1, hgb2, hT⟩ := tape_cells (by omega) hob
          have HGS := hide hgs
          have HT5 := hide hT
          have HBY := hide hby
          have hs5 : wc.heap.size ≤ w5.heap.size := hB5.size
          clear hob hgs hT hby
          go_wp2_with fail
          refine (newKeys27 (some ⟨gb, 0, none⟩) ap (nb N) cc np cp (N : Int) (X.length : Int) 0 (j : Int) 0 (place l j : Int) (q : Int) (X0.length : Int) w5).mono ?_
          rintro e w6 ⟨rfl, hw6⟩
          rw [hw6]
          clear hw6
          go_wp2_with fail
          go_ret
          have I2 := HI2.out
          have hB7 : Below w.heap.size w ((w5.alloc (.cells #[.int .i64 0, .int .i64 (j : Int), .int .i64 0, .pointer none, .int .u64 0, .int .i64 (place l j : Int), .int .i64 (q : Int), .int .i64 (X0.length : Int), .pointer none, .int .u64 0] 61)).alloc
              (.cells #[.slice (some ⟨gb, 0, none⟩) (nb N) cc, .int .i64 (N : Int), .slice ap np cp, .int .i64 (X.length : Int), .slice (some ⟨w5.heap.size, 0, none⟩) 2 2, .slice none 0 0, .slice none 0 0] 70)) :=
            ((I2.b.trans (hB5.mono hwc)).alloc (by omega) _).alloc (by simp; omega) _
          obtain ⟨PB, TG, hpb, htg, hst⟩ : ∃ PB TG, PB < w5.heap.size ∧ TG < w5.heap.size ∧ (16 < q → ap = some ⟨PB, 0, none⟩ ∧ np = 1 ∧ cp = 1 ∧ w5.cell? ⟨PB, 0, none⟩ = some (.slice (some ⟨TG, 0, none⟩) X.length cs2) ∧ ∀ i, 0 < i → 16 * i < q → X0.length + i - 1 < X.length ∧ w5.cell? ⟨TG, X0.length + i - 1, none⟩ = some (.int .i64 (place l (j + 16 * i) : Int))) := by
            by_cases hq16 : 16 < q
            · have hX := HX1.out hq16
              obtain ⟨PB, h1, h2, h3, h4⟩ := HPB.out hX
              rcases I2.s.2 with ⟨_, h0⟩ | ⟨g, c, cur, hv, _⟩
              · exact absurd (List.eq_nil_of_length_eq_zero h0) hX
              · simp only [Value.slice.injEq] at hv
                obtain ⟨rfl, _, rfl⟩ := hv
                have hPB : PB < wc.heap.size := World.block_lt_of_cell? wc _ h4
                have hg : g < wc.heap.size := (I2.s.lt g rfl).2
                refine ⟨PB, g, by omega, by omega, fun _ => ⟨h1, h2, h3, (hB5.cell (p := ⟨PB, 0, none⟩) hPB).trans h4, fun i h0 hi => ?_⟩⟩
                obtain ⟨s1, s2⟩ := HSA.out i h0 hi
                refine ⟨s2, (hB5.cell (p := ⟨g, X0.length + i - 1, none⟩) hg).trans ?_⟩
                rw [I2.s.cellAt _ (by omega)]
                simp [ic, s1]
            · exact ⟨0, 0, by omega, by omega, fun h => absurd h hq16⟩
          refine ⟨w5.heap.size + 1, gb, cc, gs, N, w5.heap.size, PB, TG, X0.length, X.length, cs2, rfl, ⟨⟨?_, fun p hp => cell_alloc (cell_alloc (HT5.out p hp) _) _, fun p hp i hi => cell_alloc (cell_alloc (HBY.out p hp i hi) _) _⟩, ?_, ?_, ?_, fun h16 => ?_, ?_, ?_, ⟨0, [], World.ownsRow_nil _ _ _ _⟩, fun G hG => by simp [Value.ownBlock] at hG, by omega, fun p hp => by have := HGS.out p hp; omega, by omega, by omega, by omega⟩, hB7, by omega, hXl, by omega, HNL.out⟩
          · rw [World.cell?_alloc_at _ _ _ _ (by simp)]; rfl
          · rw [World.cell?_alloc_at _ _ _ _ (by simp)]; rfl
          · exact cell_alloc (by rw [World.cell?_alloc_at _ _ _ _ rfl]; rfl) _
          · exact cell_alloc (by rw [World.cell?_alloc_at _ _ _ _ rfl]; rfl) _
          · obtain ⟨rfl, rfl, rfl, h4, h5⟩ := hst h16
            exact ⟨by rw [World.cell?_alloc_at _ _ _ _ (by simp)]; rfl, cell_alloc (cell_alloc h4 _) _, fun i h0 hi => ⟨(h5 i h0 hi).1, cell_alloc (cell_alloc (h5 i h0 hi).2 _) _⟩⟩
          · rw [World.cell?_alloc_at _ _ _ _ (by simp)]; rfl
          · exact World.frozen?_alloc_at _ _ _ _ (by simp)
end Go.Proofs.Qxb6604427a

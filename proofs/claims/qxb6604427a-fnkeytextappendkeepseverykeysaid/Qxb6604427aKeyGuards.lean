/-
  The laws' guards over strings: zzBytes_.. (7, 13), zzStringsTooBig (8); the arguments opened.
-/
import Derived.Test.Qxb6604427aOpen
namespace Go.Proofs.Qxb6604427a
open Go Go.RowKit
set_option maxRecDepth 100000

/-- Strings that came in. -/
def StrsIn (w : World) (ao : Option Addr) (l : List ByteArray) : Prop := l = [] ∨ ∃ b off, ao = some ⟨b, off, none⟩ ∧ ∀ j (h : j < l.length), w.cell? ⟨b, off + j, none⟩ = some (.string l[j])
/-- How many bytes the strings hold. -/
def stot (l : List ByteArray) : Nat := (l.map ByteArray.size).sum
theorem stot_snoc (l : List ByteArray) (j : Nat) (h : j < l.length) : stot (l.take (j + 1)) = stot (l.take j) + l[j].size := by
  unfold stot; rw [List.take_succ_eq_append_getElem h, List.map_append, List.sum_append]; simp only [List.map_cons, List.map_nil, List.sum_cons, List.sum_nil, Nat.add_zero]
theorem stot_take (l : List ByteArray) (j : Nat) : stot (l.take j) ≤ stot l := by
  have h : stot l = stot (l.take j) + stot (l.drop j) := by
    have := congrArg stot (List.take_append_drop j l).symm
    simp only [stot, List.map_append, List.sum_append] at this ⊢
    exact this
  omega

set_option maxHeartbeats 2000000 in
theorem bytes7 (ao bo : Option Addr) (ca cb na nb : Nat) (kk : Int) (idx : Int) (l m : List ByteArray) (w : World) (hI : StrsIn w ao l) (hJ : StrsIn w bo m) (hn : l.length = na) (hn' : m.length = nb) (hm : na ≤ maxLen) (hm' : nb ≤ maxLen) (hs : ∀ j (h : j < l.length), l[j].size ≤ maxLen) (hs' : ∀ j (h : j < m.length), m[j].size ≤ maxLen) :
    Calls Try.prog 7 #[.slice ao na ca, .slice bo nb cb, .int .u8 kk, .int .i64 idx] w fun e w' => Says e (na ≤ 1048576 ∧ nb ≤ 1048576 ∧ stot l + stot m ≤ 1048576) ∧ w' = w := by
  unfold maxLen at hm hm'
  by_cases hn1 : (na : Int) ≤ 1048576
  · go_enter Try.func7, Try.ntmps7
    go_wp2
    go_loop [9, 10] (fun z i => ∃ j zz : Nat, j ≤ na ∧ i = .int .i64 j ∧ z = .int .i64 zz ∧ Hid (zz = na + stot (l.take j)) ∧ zz ≤ 1048576) (fun _ i => na - (intOf i).toNat)
    case atStart => exact ⟨0, na, Nat.zero_le _, rfl, by go_num, (by show na = na + 0; omega), by omega⟩
    case round =>
      obtain ⟨j, zz, hj, rfl, rfl, hzz, hzl⟩ := hrel
      by_cases hlt : (j : Int) < (na : Int)
      · have hj' : j < l.length := by omega
        rcases hI with h0 | ⟨b, off, rfl, hI⟩
        · subst h0; simp at hj'
        have cs := hI j hj'
        have hsz := hs j hj'
        have ht := hide (stot_snoc l j hj')
        generalize l[j] = s at *
        unfold maxLen at hsz
        clear hI hs hs' hJ
        by_cases hsl : (s.size : Int) ≤ 1048576
        · by_cases hz2 : (zz : Int) + (s.size : Int) ≤ 1048576
          · go_wp2
            go_round
            case rel => exact ⟨j + 1, zz + s.size, by omega, by go_num, by go_num, (by show zz + s.size = _; have h1 := hzz.out; have h2 := ht.out; omega), by omega⟩
            case measure => simp [intOf]; omega
          · go_wp2
            go_ret
            exact ⟨Says.no, rfl⟩
        · go_wp2
          go_ret
          exact ⟨Says.no, rfl⟩
      · have hjn : j = na := by omega
        have htl : Hid (zz = na + stot l) := by
          have h := hzz.out
          rwa [show l.take j = l from List.take_of_length_le (by omega)] at h
        clear hI hs hzz
        by_cases hlb1 : (nb : Int) ≤ 1048576
        · by_cases hz2 : (zz : Int) + (nb : Int) ≤ 1048576
          · go_wp2
            go_loop [9, 11] (fun z i => ∃ q yy : Nat, q ≤ nb ∧ i = .int .i64 q ∧ z = .int .i64 yy ∧ Hid (yy = zz + nb + stot (m.take q)) ∧ yy ≤ 1048576) (fun _ i => nb - (intOf i).toNat)
            case atStart => exact ⟨0, zz + nb, Nat.zero_le _, rfl, by go_num, (by show zz + nb = zz + nb + 0; omega), by omega⟩
            case round =>
              obtain ⟨q, yy, hq, rfl, rfl, hyy, hyl⟩ := hrel
              by_cases hlt2 : (q : Int) < (nb : Int)
              · have hq' : q < m.length := by omega
                rcases hJ with h0 | ⟨b, off, rfl, hJ⟩
                · subst h0; simp at hq'
                have cs := hJ q hq'
                have hsz := hs' q hq'
                have ht := hide (stot_snoc m q hq')
                generalize m[q] = s at *
                unfold maxLen at hsz
                clear hJ hs'
                by_cases hsl : (s.size : Int) ≤ 1048576
                · by_cases hz3 : (yy : Int) + (s.size : Int) ≤ 1048576
                  · go_wp2
                    go_round
                    case rel => exact ⟨q + 1, yy + s.size, by omega, by go_num, by go_num, (by show yy + s.size = _; have h1 := hyy.out; have h2 := ht.out; omega), by omega⟩
                    case measure => simp [intOf]; omega
                  · go_wp2
                    go_ret
                    exact ⟨Says.no, rfl⟩
                · go_wp2
                  go_ret
                  exact ⟨Says.no, rfl⟩
              · have hqn : q = nb := by omega
                have htm : Hid (yy = zz + nb + stot m) := by
                  have h := hyy.out
                  rwa [show m.take q = m from List.take_of_length_le (by omega)] at h
                clear hyy
                go_wp2
                go_ret
                exact ⟨Says.yes ⟨by omega, by omega, by have h1 := htm.out; have h2 := htl.out; omega⟩, rfl⟩
          · go_wp2
            go_ret
            exact ⟨Says.no, rfl⟩
        · go_wp2
          go_ret
          exact ⟨Says.no, rfl⟩
  · go_enter Try.func7, Try.ntmps7
    go_wp2
    go_ret
    exact ⟨Says.no, rfl⟩

set_option maxHeartbeats 2000000 in
theorem bytes13 (ao bo : Option Addr) (ca cb na nb : Nat) (kk : Int) (idx : Int) (l m : List ByteArray) (w : World) (hI : StrsIn w ao l) (hJ : StrsIn w bo m) (hn : l.length = na) (hn' : m.length = nb) (hm : na ≤ maxLen) (hm' : nb ≤ maxLen) (hs : ∀ j (h : j < l.length), l[j].size ≤ maxLen) (hs' : ∀ j (h : j < m.length), m[j].size ≤ maxLen) :
    Calls Try.prog 13 #[.slice ao na ca, .slice bo nb cb, .int .u8 kk, .int .i64 idx] w fun e w' => Says e (na ≤ 1048576 ∧ nb ≤ 1048576 ∧ stot l + stot m ≤ 1048576) ∧ w' = w := by
  unfold maxLen at hm hm'
  by_cases hn1 : (na : Int) ≤ 1048576
  · go_enter Try.func13, Try.ntmps13
    go_wp2
    go_loop [9, 10] (fun z i => ∃ j zz : Nat, j ≤ na ∧ i = .int .i64 j ∧ z = .int .i64 zz ∧ Hid (zz = na + stot (l.take j)) ∧ zz ≤ 1048576) (fun _ i => na - (intOf i).toNat)
    case atStart => exact ⟨0, na, Nat.zero_le _, rfl, by go_num, (by show na = na + 0; omega), by omega⟩
    case round =>
      obtain ⟨j, zz, hj, rfl, rfl, hzz, hzl⟩ := hrel
      by_cases hlt : (j : Int) < (na : Int)
      · have hj' : j < l.length := by omega
        rcases hI with h0 | ⟨b, off, rfl, hI⟩
        · subst h0; simp at hj'
        have cs := hI j hj'
        have hsz := hs j hj'
        have ht := hide (stot_snoc l j hj')
        generalize l[j] = s at *
        unfold maxLen at hsz
        clear hI hs hs' hJ
        by_cases hsl : (s.size : Int) ≤ 1048576
        · by_cases hz2 : (zz : Int) + (s.size : Int) ≤ 1048576
          · go_wp2
            go_round
            case rel => exact ⟨j + 1, zz + s.size, by omega, by go_num, by go_num, (by show zz + s.size = _; have h1 := hzz.out; have h2 := ht.out; omega), by omega⟩
            case measure => simp [intOf]; omega
          · go_wp2
            go_ret
            exact ⟨Says.no, rfl⟩
        · go_wp2
          go_ret
          exact ⟨Says.no, rfl⟩
      · have hjn : j = na := by omega
        have htl : Hid (zz = na + stot l) := by
          have h := hzz.out
          rwa [show l.take j = l from List.take_of_length_le (by omega)] at h
        clear hI hs hzz
        by_cases hlb1 : (nb : Int) ≤ 1048576
        · by_cases hz2 : (zz : Int) + (nb : Int) ≤ 1048576
          · go_wp2
            go_loop [9, 11] (fun z i => ∃ q yy : Nat, q ≤ nb ∧ i = .int .i64 q ∧ z = .int .i64 yy ∧ Hid (yy = zz + nb + stot (m.take q)) ∧ yy ≤ 1048576) (fun _ i => nb - (intOf i).toNat)
            case atStart => exact ⟨0, zz + nb, Nat.zero_le _, rfl, by go_num, (by show zz + nb = zz + nb + 0; omega), by omega⟩
            case round =>
              obtain ⟨q, yy, hq, rfl, rfl, hyy, hyl⟩ := hrel
              by_cases hlt2 : (q : Int) < (nb : Int)
              · have hq' : q < m.length := by omega
                rcases hJ with h0 | ⟨b, off, rfl, hJ⟩
                · subst h0; simp at hq'
                have cs := hJ q hq'
                have hsz := hs' q hq'
                have ht := hide (stot_snoc m q hq')
                generalize m[q] = s at *
                unfold maxLen at hsz
                clear hJ hs'
                by_cases hsl : (s.size : Int) ≤ 1048576
                · by_cases hz3 : (yy : Int) + (s.size : Int) ≤ 1048576
                  · go_wp2
                    go_round
                    case rel => exact ⟨q + 1, yy + s.size, by omega, by go_num, by go_num, (by show yy + s.size = _; have h1 := hyy.out; have h2 := ht.out; omega), by omega⟩
                    case measure => simp [intOf]; omega
                  · go_wp2
                    go_ret
                    exact ⟨Says.no, rfl⟩
                · go_wp2
                  go_ret
                  exact ⟨Says.no, rfl⟩
              · have hqn : q = nb := by omega
                have htm : Hid (yy = zz + nb + stot m) := by
                  have h := hyy.out
                  rwa [show m.take q = m from List.take_of_length_le (by omega)] at h
                clear hyy
                go_wp2
                go_ret
                exact ⟨Says.yes ⟨by omega, by omega, by have h1 := htm.out; have h2 := htl.out; omega⟩, rfl⟩
          · go_wp2
            go_ret
            exact ⟨Says.no, rfl⟩
        · go_wp2
          go_ret
          exact ⟨Says.no, rfl⟩
  · go_enter Try.func13, Try.ntmps13
    go_wp2
    go_ret
    exact ⟨Says.no, rfl⟩

set_option maxHeartbeats 2000000 in
/-- zzStringsTooBig: some bool. -/
theorem big8 (ao bo : Option Addr) (ca cb na nb : Nat) (l m : List ByteArray) (w : World) (hI : StrsIn w ao l) (hJ : StrsIn w bo m) (hn : l.length = na) (hn' : m.length = nb) (hm : (na : Int) ≤ 1048576) (hm' : (nb : Int) ≤ 1048576) (ht : stot l + stot m ≤ 1048576) :
    Calls Try.prog 8 #[.slice ao na ca, .slice bo nb cb, .int .i64 16] w fun e w' => Says e True ∧ w' = w := by
  go_enter Try.func8, Try.ntmps8
  go_wp2
  go_loop [7, 8] (fun z i => ∃ j zz : Nat, j ≤ na ∧ i = .int .i64 j ∧ z = .int .i64 zz ∧ Hid (zz ≤ 33554432 + stot (l.take j)) ∧ zz ≤ 35651584) (fun _ i => na - (intOf i).toNat)
  case atStart => exact ⟨0, 16 * na + 16 * nb, Nat.zero_le _, rfl, by go_num, (by show _ ≤ 33554432 + 0; omega), by omega⟩
  case round =>
    obtain ⟨j, zz, hj, rfl, rfl, hzz, hzl⟩ := hrel
    by_cases hgo : (j : Int) < (na : Int) ∧ (zz : Int) ≤ 1048576
    · obtain ⟨hlt, hle⟩ := hgo
      have hj' : j < l.length := by omega
      rcases hI with h0 | ⟨b, off, rfl, hI⟩
      · subst h0; simp at hj'
      have cs := hI j hj'
      have hts := stot_snoc l j hj'
      have htt := stot_take l (j + 1)
      generalize l[j] = s at *
      have hss : (s.size : Int) ≤ 1048576 := by omega
      have HT := hide hts
      clear hts hI hJ
      go_wp2
      go_round
      case rel => exact ⟨j + 1, zz + s.size, by omega, by go_num, by go_num, (by show zz + s.size ≤ _; have h1 := hzz.out; have h2 := HT.out; omega), by have h1 := hzz.out; have h2 := HT.out; omega⟩
      case measure => simp [intOf]; omega
    · have hx : Hid (zz ≤ 34603008) := by
        show zz ≤ 34603008
        have h1 := hzz.out
        have h2 := stot_take l j
        omega
      have hgo' : ((j : Int) < (na : Int) ∧ (1048576 : Int) < (zz : Int)) ∨ ¬ (j : Int) < (na : Int) := by omega
      clear hgo hI hzz
      rcases hgo' with ⟨hlt, hgt⟩ | hlt
      all_goals
        go_wp2
        go_loop [7, 9] (fun z i => ∃ q yy : Nat, q ≤ nb ∧ i = .int .i64 q ∧ z = .int .i64 yy ∧ Hid (yy ≤ 34603008 + stot (m.take q)) ∧ yy ≤ 35651584) (fun _ i => nb - (intOf i).toNat)
        case atStart => exact ⟨0, zz, Nat.zero_le _, rfl, rfl, (by show zz ≤ 34603008 + 0; exact hx.out), by omega⟩
        case round =>
          obtain ⟨q, yy, hq, rfl, rfl, hyy, hyl⟩ := hrel
          by_cases hgo : (q : Int) < (nb : Int) ∧ (yy : Int) ≤ 1048576
          · obtain ⟨hlt2, hle⟩ := hgo
            have hq' : q < m.length := by omega
            rcases hJ with h0 | ⟨b, off, rfl, hJ⟩
            · subst h0; simp at hq'
            have cs := hJ q hq'
            have hts := stot_snoc m q hq'
            have htt := stot_take m (q + 1)
            generalize m[q] = s at *
            have hss : (s.size : Int) ≤ 1048576 := by omega
            have HT := hide hts
            clear hts hJ
            go_wp2
            go_round
            case rel => exact ⟨q + 1, yy + s.size, by omega, by go_num, by go_num, (by show yy + s.size ≤ _; have h1 := hyy.out; have h2 := HT.out; omega), by have h1 := hyy.out; have h2 := HT.out; omega⟩
            case measure => simp [intOf]; omega
          · have hgo' : ((q : Int) < (nb : Int) ∧ (1048576 : Int) < (yy : Int)) ∨ ¬ (q : Int) < (nb : Int) := by omega
            clear hgo hJ
            rcases hgo' with ⟨hlt, hgt⟩ | hlt
            all_goals
              go_wp2
              go_ret
              exact ⟨⟨_, rfl, fun _ => trivial⟩, rfl⟩

end Go.Proofs.Qxb6604427a

/-
  The laws' guards over the items: zzBytes_.. (14, 24), zzItemsTooBig (15), zzKindsFit (16).
-/
import Derived.Test.Qxb6604427aLong
namespace Go.Proofs.Qxb6604427a
open Go Go.RowKit
set_option maxRecDepth 100000

/-- Items that came in. -/
def ItemsIn (w : World) (ao : Option Addr) (l : List (Nat × ByteArray)) : Prop := l = [] ∨ ∃ b off, ao = some ⟨b, off, none⟩ ∧ ∀ j (h : j < l.length), w.cell? ⟨b, off + j * 2, none⟩ = some (.int .u8 (l[j].1 : Int)) ∧ w.cell? ⟨b, off + j * 2 + 1, none⟩ = some (.string l[j].2)

/-- A bool came back; where it is true p holds. -/
def Says (e : Ending) (p : Prop) : Prop := ∃ r, e = .returned (.bool r) ∧ (r = true → p)
theorem Says.no {p : Prop} : Says (.returned (.bool false)) p := ⟨false, rfl, by simp⟩
theorem Says.yes {p : Prop} (h : p) : Says (.returned (.bool true)) p := ⟨true, rfl, fun _ => h⟩

set_option maxHeartbeats 1000000 in
theorem bytes14 (ao ab : Option Addr) (cap lb cb n : Nat) (idx : Int) (l : List (Nat × ByteArray)) (w : World) (hI : ItemsIn w ao l) (hn : l.length = n) (hm : n ≤ maxLen) (hlb : lb ≤ maxLen) (hs : ∀ j (h : j < l.length), l[j].2.size ≤ maxLen) :
    Calls Try.prog 14 #[.slice ao n cap, .int .i64 idx, .slice ab lb cb] w fun e w' => Says e (n ≤ 1048576 ∧ total l ≤ 1048576 ∧ lb ≤ 1048576) ∧ w' = w := by
  unfold maxLen at hm hlb
  by_cases hn1 : (n : Int) ≤ 1048576
  · go_enter Try.func14, Try.ntmps14
    go_wp2
    go_loop [7, 8] (fun z i => ∃ j zz : Nat, j ≤ n ∧ i = .int .i64 j ∧ z = .int .i64 zz ∧ Hid (zz = n + total (l.take j)) ∧ zz ≤ 1048576) (fun _ i => n - (intOf i).toNat)
    case atStart => exact ⟨0, n, Nat.zero_le _, rfl, rfl, (by show n = n + 0; omega), by omega⟩
    case round =>
      obtain ⟨j, zz, hj, rfl, rfl, hzz, hzl⟩ := hrel
      by_cases hlt : (j : Int) < (n : Int)
      · have hj' : j < l.length := by omega
        rcases hI with h0 | ⟨b, off, rfl, hI⟩
        · subst h0; simp at hj'
        obtain ⟨_, cs⟩ := hI j hj'
        have hsz := hs j hj'
        have ht := hide (total_snoc l j hj')
        generalize l[j].2 = s at *
        unfold maxLen at hsz
        by_cases hsl : (s.size : Int) ≤ 1048576
        · by_cases hz2 : (zz : Int) + (s.size : Int) ≤ 1048576
          · go_wp2
            go_round
            case rel => exact ⟨j + 1, zz + s.size, by omega, by go_num, by go_num, (by show zz + s.size = _; have h1 := hzz.out; have h2 := ht.out; omega), by omega⟩
            case measure => simp [intOf]; omega
          · go_wp2
            go_ret
            exact ⟨Says.no, rfl⟩
        · go_wp2
          go_ret
          exact ⟨Says.no, rfl⟩
      · have hjn : j = n := by omega
        have htl := hide (show l.take j = l from List.take_of_length_le (by omega))
        by_cases hlb1 : (lb : Int) ≤ 1048576
        · by_cases hz2 : (zz : Int) + (lb : Int) ≤ 1048576
          · go_wp2
            go_ret
            exact ⟨Says.yes ⟨by omega, by have h1 := hzz.out; rw [htl.out] at h1; omega, by omega⟩, rfl⟩
          · go_wp2
            go_ret
            exact ⟨Says.no, rfl⟩
        · go_wp2
          go_ret
          exact ⟨Says.no, rfl⟩
  · go_enter Try.func14, Try.ntmps14
    go_wp2
    go_ret
    exact ⟨Says.no, rfl⟩

set_option maxHeartbeats 1000000 in
theorem bytes24 (ao : Option Addr) (cap n : Nat) (l : List (Nat × ByteArray)) (w : World) (hI : ItemsIn w ao l) (hn : l.length = n) (hm : n ≤ maxLen) (hs : ∀ j (h : j < l.length), l[j].2.size ≤ maxLen) :
    Calls Try.prog 24 #[.slice ao n cap] w fun e w' => Says e (n ≤ 1048576 ∧ total l ≤ 1048576) ∧ w' = w := by
  unfold maxLen at hm
  by_cases hn1 : (n : Int) ≤ 1048576
  · go_enter Try.func24, Try.ntmps24
    go_wp2
    go_loop [3, 4] (fun z i => ∃ j zz : Nat, j ≤ n ∧ i = .int .i64 j ∧ z = .int .i64 zz ∧ Hid (zz = n + total (l.take j)) ∧ zz ≤ 1048576) (fun _ i => n - (intOf i).toNat)
    case atStart => exact ⟨0, n, Nat.zero_le _, rfl, by go_num, (by show n = n + 0; omega), by omega⟩
    case round =>
      obtain ⟨j, zz, hj, rfl, rfl, hzz, hzl⟩ := hrel
      by_cases hlt : (j : Int) < (n : Int)
      · have hj' : j < l.length := by omega
        rcases hI with h0 | ⟨b, off, rfl, hI⟩
        · subst h0; simp at hj'
        obtain ⟨_, cs⟩ := hI j hj'
        have hsz := hs j hj'
        have ht := hide (total_snoc l j hj')
        generalize l[j].2 = s at *
        unfold maxLen at hsz
        by_cases hsl : (s.size : Int) ≤ 1048576
        · by_cases hz2 : (zz : Int) + (s.size : Int) ≤ 1048576
          · go_wp2
            go_round
            case rel => exact ⟨j + 1, zz + s.size, by omega, by go_num, by go_num, (by show zz + s.size = _; have h1 := hzz.out; have h2 := ht.out; omega), by omega⟩
            case measure => simp [intOf]; omega
          · go_wp2
            go_ret
            exact ⟨Says.no, rfl⟩
        · go_wp2
          go_ret
          exact ⟨Says.no, rfl⟩
      · have hjn : j = n := by omega
        have htl := hide (show l.take j = l from List.take_of_length_le (by omega))
        go_wp2
        go_ret
        exact ⟨Says.yes ⟨by omega, by have h1 := hzz.out; rw [htl.out] at h1; omega⟩, rfl⟩
  · go_enter Try.func24, Try.ntmps24
    go_wp2
    go_ret
    exact ⟨Says.no, rfl⟩

set_option maxHeartbeats 1000000 in
/-- zzItemsTooBig: some bool. -/
theorem big15 (ao : Option Addr) (cap n : Nat) (ex : Int) (l : List (Nat × ByteArray)) (w : World) (hI : ItemsIn w ao l) (hn : l.length = n) (hm : (n : Int) ≤ 1048576) (hx0 : 0 ≤ ex) (hx : ex ≤ 1048576) (ht : total l ≤ 1048576) :
    Calls Try.prog 15 #[.slice ao n cap, .int .i64 ex] w fun e w' => Says e True ∧ w' = w := by
  go_enter Try.func15, Try.ntmps15
  go_wp2
  go_loop [5, 6] (fun z i => ∃ j zz : Nat, j ≤ n ∧ i = .int .i64 j ∧ z = .int .i64 zz ∧ Hid (zz ≤ 26214400 + total (l.take j)) ∧ zz ≤ 27262976) (fun _ i => n - (intOf i).toNat)
  case atStart => exact ⟨0, (24 * (n : Int) + ex).toNat, Nat.zero_le _, rfl, by go_num, (by show _ ≤ 26214400 + 0; omega), by omega⟩
  case round =>
    obtain ⟨j, zz, hj, rfl, rfl, hzz, hzl⟩ := hrel
    by_cases hlt : (j : Int) < (n : Int)
    · by_cases hz : (zz : Int) ≤ 1048576
      · have hj' : j < l.length := by omega
        rcases hI with h0 | ⟨b, off, rfl, hI⟩
        · subst h0; simp at hj'
        obtain ⟨_, cs⟩ := hI j hj'
        have hsz := size_le l j hj'
        have hts := hide (total_snoc l j hj')
        have htt := total_take l (j + 1)
        generalize l[j].2 = s at *
        go_wp2
        go_round
        case rel => exact ⟨j + 1, zz + s.size, by omega, by go_num, by go_num, (by show zz + s.size ≤ _; have h1 := hzz.out; have h2 := hts.out; omega), by omega⟩
        case measure => simp [intOf]; omega
      · have hd : decide ((zz : Int) ≤ 1048576) = false := by simpa using hz
        go_wp2
        go_ret
        exact ⟨⟨_, rfl, fun _ => trivial⟩, rfl⟩
    · have hd : decide ((j : Int) < (n : Int)) = false := by simpa using hlt
      go_wp2
      go_ret
      exact ⟨⟨_, rfl, fun _ => trivial⟩, rfl⟩

set_option maxHeartbeats 1000000 in
/-- zzKindsFit. -/
theorem kinds16 (ao : Option Addr) (cap n : Nat) (l : List (Nat × ByteArray)) (w : World) (hI : ItemsIn w ao l) (hn : l.length = n) (hm : (n : Int) ≤ 1048576) :
    Calls Try.prog 16 #[.slice ao n cap] w fun e w' => Says e (∀ j (h : j < l.length), l[j].1 ≤ 15) ∧ w' = w := by
  go_enter Try.func16, Try.ntmps16
  go_wp2
  go_loop [3] (fun i => ∃ j : Nat, j ≤ n ∧ i = .int .i64 j ∧ Hid (∀ q (h : q < l.length), q < j → l[q].1 ≤ 15)) (fun i => n - (intOf i).toNat)
  case atStart => exact ⟨0, Nat.zero_le _, rfl, fun q _ hq => absurd hq (by omega)⟩
  case round =>
    obtain ⟨j, hj, rfl, hq⟩ := hrel
    by_cases hlt : (j : Int) < (n : Int)
    · have hj' : j < l.length := by omega
      rcases hI with h0 | ⟨b, off, rfl, hI⟩
      · subst h0; simp at hj'
      obtain ⟨ck, _⟩ := hI j hj'
      generalize hk : l[j].1 = k at *
      have HK := hide hk
      clear hk
      by_cases hk15 : (k : Int) ≤ 15
      · go_wp2
        go_round
        case rel =>
          refine ⟨j + 1, by omega, by go_num, fun q h1 h2 => ?_⟩
          by_cases e : q = j
          · subst e; rw [HK.out]; omega
          · exact hq.out q h1 (by omega)
        case measure => simp [intOf]; omega
      · go_wp2
        go_ret
        exact ⟨Says.no, rfl⟩
    · go_wp2
      go_ret
      exact ⟨Says.yes fun q h => hq.out q (by omega) (by omega), rfl⟩
end Go.Proofs.Qxb6604427a

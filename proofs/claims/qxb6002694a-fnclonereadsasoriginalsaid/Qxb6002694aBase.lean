/-
  What the two laws' walks share; the small functions: addBounded (24), endpoint (20), firstMention (19), containsString (21), slices.Index (30), slices.Contains (29).
-/
import Derived.Test.Qxb6002694aRows
import Derived.Test.Qxb6002694aPlain
import Derived.Test.Qxb6002694aApp
import Derived.WalkKit
import Derived.WalkSpells
import Derived.WalkLawsBesides
import Derived.Deep.RegionHeld3
import Derived.Deep.DrawnRows
import Derived.Deep.DeepCutAuto
import Derived.BigQuiet
import Derived.Lib.SlicesS
namespace Go.Proofs.Qxb6002694a
open Go Go.RowKit
set_option maxRecDepth 100000

theorem hide {p : Prop} (h : p) : Hid p := h
theorem unhide {p : Prop} (h : Hid p) : p := h

theorem cell_alloc {W : World} {p : Addr} {v : Value} (h : W.cell? p = some v) (o : Obj) : (W.alloc o).cell? p = some v := by
  rw [World.cell?_alloc_lt _ _ _ (World.block_lt_of_cell? W _ h)]; exact h
theorem own_shape {w : World} {B e sz n : Nat} {v : Value} {xs : List Value} (h : w.ownsRow B e sz v n xs) : ∃ ao c, v = .slice ao n c := by
  rcases h.2 with ⟨rfl, rfl⟩ | ⟨g, cap, _, rfl, _⟩
  · exact ⟨_, _, rfl⟩
  · exact ⟨_, _, rfl⟩
theorem below_drewN {W : Nat} {w w' : World} (h : Below W w w') (n : Nat) : Below W w (w'.drewN n) := ⟨h.os, h.tape, h.output, h.size, h.block⟩

/-- A bool came back; where it is true p holds. -/
def Says (e : Ending) (p : Prop) : Prop := ∃ r, e = .returned (.bool r) ∧ (r = true → p)
theorem Says.no {p : Prop} : Says (.returned (.bool false)) p := ⟨false, rfl, by simp⟩
theorem Says.yes {p : Prop} (h : p) : Says (.returned (.bool true)) p := ⟨true, rfl, fun _ => h⟩

/-- Strings that a slice leads to. -/
def Strs (w : World) (v : Value) (l : List ByteArray) : Prop := (l = [] ∧ ∃ ao c, v = .slice ao 0 c) ∨ ∃ g o c, v = .slice (some ⟨g, o, none⟩) l.length c ∧ ∀ j (h : j < l.length), w.cell? ⟨g, o + j, none⟩ = some (.string l[j])
theorem Strs.shape {w : World} {v : Value} {l : List ByteArray} (h : Strs w v l) : ∃ ao c, v = .slice ao l.length c := by
  rcases h with ⟨rfl, ao, c, rfl⟩ | ⟨g, o, c, rfl, _⟩
  · exact ⟨_, _, rfl⟩
  · exact ⟨_, _, rfl⟩

/-- Transitions that a slice leads to. -/
def Trs (w : World) (ao : Option Addr) (l : List Tr) : Prop := l = [] ∨ ∃ b off, ao = some ⟨b, off, none⟩ ∧ ∀ j (h : j < l.length), w.cell? ⟨b, off + j * 3, none⟩ = some (.string l[j].1) ∧ w.cell? ⟨b, off + j * 3 + 1, none⟩ = some (.string l[j].2.1) ∧ w.cell? ⟨b, off + j * 3 + 2, none⟩ = some (.string l[j].2.2)

set_option maxHeartbeats 400000 in
theorem endpoint20 (ao : Option Addr) (n cap k : Nat) (l : List Tr) (w : World) (hI : Trs w ao l) (hn : l.length = n) (hk : (k : Int) < 2 * (n : Int)) (hm : (n : Int) ≤ 65536) :
    Calls Try.prog 20 #[.slice ao n cap, .int .i64 k] w fun e w' => e = .returned (.string (ep l k)) ∧ w' = w := by
  have hq : k / 2 < l.length := by omega
  rcases hI with h0 | ⟨b, off, rfl, hI⟩
  · subst h0; simp at hq
  obtain ⟨c0, _, c2⟩ := hI (k / 2) hq
  have hdiv : (k : Int) / 2 = ((k / 2 : Nat) : Int) := by omega
  have hql : ((k / 2 : Nat) : Int) < (n : Int) := by omega
  have he : ep l k = if k % 2 = 0 then l[k / 2].1 else l[k / 2].2.2 := by
    unfold ep; rw [List.getD_eq_getElem?_getD, List.getElem?_eq_getElem hq]; rfl
  have HE := hide he
  clear he
  generalize l[k / 2].1 = s at *
  generalize l[k / 2].2.2 = t at *
  generalize k / 2 = q at *
  by_cases hp : k % 2 = 0
  · have hd : ((k : Int) % 2 == 0) = true := by rw [beq_iff_eq]; omega
    have HP := hide hp
    clear hp
    go_enter Try.func20, Try.ntmps20
    go_wp2_with fail
    go_ret
    exact ⟨by rw [HE.out, if_pos HP.out]; rfl, rfl⟩
  · have hd : ((k : Int) % 2 == 0) = false := by rw [beq_eq_false_iff_ne]; omega
    have HP := hide hp
    clear hp
    go_enter Try.func20, Try.ntmps20
    go_wp2_with fail
    go_ret
    exact ⟨by rw [HE.out, if_neg HP.out]; rfl, rfl⟩

/-- A bool came back, true just where p holds. -/
def Tells (e : Ending) (p : Prop) : Prop := ∃ r, e = .returned (.bool r) ∧ (r = true ↔ p)
/-- An int came back, at least 0 just where p holds. -/
def Finds (e : Ending) (p : Prop) : Prop := ∃ r : Int, e = .returned (.int .i64 r) ∧ (0 ≤ r ↔ p) ∧ -1 ≤ r ∧ r ≤ 1048576

set_option maxHeartbeats 1000000 in
theorem index30 (v : Value) (L : List ByteArray) (s : ByteArray) (w : World) (h : Strs w v L) (hn : (L.length : Int) ≤ 1048576) :
    Calls Try.prog 30 #[v, .string s] w fun e w' => Finds e (s ∈ L) ∧ w' = w := by
  obtain ⟨ao, c, rfl⟩ := h.shape
  obtain ⟨n, hn'⟩ : ∃ n, n = L.length := ⟨_, rfl⟩
  rw [← hn'] at h ⊢
  rw [← hn'] at hn
  go_enter Try.func30, Try.ntmps30
  go_wp2_with fail
  go_loop [8] (fun i => ∃ j : Nat, j ≤ n ∧ i = .int .i64 j ∧ Hid (∀ q (h : q < L.length), q < j → L[q] ≠ s)) (fun i => n - (intOf i).toNat)
  case atStart => exact ⟨0, Nat.zero_le _, rfl, fun q _ hq => absurd hq (by omega)⟩
  case round =>
    obtain ⟨j, hj, rfl, hX⟩ := hrel
    by_cases hlt : (j : Int) < (n : Int)
    · have hj' : j < L.length := by omega
      rcases h with ⟨h0, _⟩ | ⟨g, o, c', hv, hI⟩
      · subst h0; simp at hj'
      simp only [Value.slice.injEq] at hv
      obtain ⟨rfl, _, rfl⟩ := hv
      have ck := hI j hj'
      have HM := hide (show s = L[j] → s ∈ L from fun e => e ▸ List.getElem_mem hj')
      have HJ := hide (show L[j] ≠ s → ∀ q (h : q < L.length), q < j + 1 → L[q] ≠ s from fun hne q hq hqj => by
        by_cases e : q = j
        · subst e; exact hne
        · exact hX.out q hq (by omega))
      clear hI hX
      generalize L[j] = x at *
      by_cases he : s = x
      · have hd : (s.toList == x.toList) = true := (Lib.bytes_beq_iff _ _).2 he
        have HE := hide he
        clear he
        go_wp2_with fail
        go_ret
        exact ⟨⟨_, rfl, ⟨fun _ => HM.out HE.out, fun _ => by omega⟩, by omega, by omega⟩, rfl⟩
      · have hd : (s.toList == x.toList) = false := (Lib.bytes_beq_false_iff _ _).2 he
        go_wp2_with fail
        go_round
        case rel => exact ⟨j + 1, by omega, by go_num, HJ.out (fun e => he e.symm)⟩
        case measure => simp [intOf]; omega
    · clear h
      go_wp2_with fail
      go_ret
      refine ⟨⟨_, rfl, ⟨fun h => absurd h (by decide), fun hm => ?_⟩, by omega, by omega⟩, rfl⟩
      obtain ⟨q, hq, e⟩ := List.mem_iff_getElem.1 hm
      exact absurd e (hX.out q hq (by omega))

set_option maxHeartbeats 1000000 in
theorem contains29 (v : Value) (L : List ByteArray) (s : ByteArray) (w : World) (h : Strs w v L) (hn : (L.length : Int) ≤ 1048576) :
    Calls Try.prog 29 #[v, .string s] w fun e w' => Tells e (s ∈ L) ∧ w' = w := by
  have C30 := hide (index30 v L s w h hn)
  clear h
  go_enter Try.func29, Try.ntmps29
  go_wp2_with fail
  refine (unhide C30).mono ?_
  rintro e w1 ⟨⟨r, rfl, hr, hr1, hr2⟩, rfl⟩
  have HR := hide hr
  clear hr
  go_wp2_with fail
  go_ret
  exact ⟨⟨_, rfl, by rw [← HR.out]; exact decide_eq_true_iff⟩, rfl⟩

set_option maxHeartbeats 1000000 in
theorem contains21 (v : Value) (L : List ByteArray) (s : ByteArray) (w : World) (h : Strs w v L) (hn : (L.length : Int) ≤ 1048576) :
    Calls Try.prog 21 #[v, .string s] w fun e w' => Tells e (s ∈ L) ∧ w' = w := by
  obtain ⟨ao, c, rfl⟩ := h.shape
  obtain ⟨n, hn'⟩ : ∃ n, n = L.length := ⟨_, rfl⟩
  rw [← hn'] at h ⊢
  rw [← hn'] at hn
  go_enter Try.func21, Try.ntmps21
  go_wp2_with fail
  go_loop [5] (fun i => ∃ j : Nat, j ≤ n ∧ i = .int .i64 j ∧ Hid (∀ q (h : q < L.length), q < j → L[q] ≠ s)) (fun i => n - (intOf i).toNat)
  case atStart => exact ⟨0, Nat.zero_le _, rfl, fun q _ hq => absurd hq (by omega)⟩
  case round =>
    obtain ⟨j, hj, rfl, hX⟩ := hrel
    by_cases hlt : (j : Int) < (n : Int)
    · have hj' : j < L.length := by omega
      rcases h with ⟨h0, _⟩ | ⟨g, o, c', hv, hI⟩
      · subst h0; simp at hj'
      simp only [Value.slice.injEq] at hv
      obtain ⟨rfl, _, rfl⟩ := hv
      have ck := hI j hj'
      have HM := hide (show L[j] = s → s ∈ L from fun e => e ▸ List.getElem_mem hj')
      have HJ := hide (show L[j] ≠ s → ∀ q (h : q < L.length), q < j + 1 → L[q] ≠ s from fun hne q hq hqj => by
        by_cases e : q = j
        · subst e; exact hne
        · exact hX.out q hq (by omega))
      clear hI hX
      generalize L[j] = x at *
      by_cases he : x = s
      · have hd : (x.toList == s.toList) = true := (Lib.bytes_beq_iff _ _).2 he
        have HE := hide he
        clear he
        go_wp2_with fail
        go_ret
        exact ⟨⟨_, rfl, ⟨fun _ => HM.out HE.out, fun _ => rfl⟩⟩, rfl⟩
      · have hd : (x.toList == s.toList) = false := (Lib.bytes_beq_false_iff _ _).2 he
        go_wp2_with fail
        go_round
        case rel => exact ⟨j + 1, by omega, by go_num, HJ.out he⟩
        case measure => simp [intOf]; omega
    · clear h
      go_wp2_with fail
      go_ret
      refine ⟨⟨_, rfl, ⟨(fun h => by cases h), fun hm => ?_⟩⟩, rfl⟩
      obtain ⟨q, hq, e⟩ := List.mem_iff_getElem.1 hm
      exact absurd e (hX.out q hq (by omega))

set_option maxHeartbeats 1000000 in
theorem first19 (ao : Option Addr) (n cap k : Nat) (l : List Tr) (w : World) (hI : Trs w ao l) (hn : l.length = n) (hk : (k : Int) < 2 * (n : Int)) (hm : (n : Int) ≤ 65536) :
    Calls Try.prog 19 #[.slice ao n cap, .string (ep l k)] w fun e w' => Finds e True ∧ w' = w := by
  have HC := hide fun j hj => endpoint20 ao n cap j l w hI hn hj hm
  clear hI
  go_enter Try.func19, Try.ntmps19
  go_wp2_with fail
  go_loop [5] (fun i => ∃ j : Nat, j ≤ k ∧ i = .int .i64 j) (fun i => k - (intOf i).toNat)
  case atStart => exact ⟨0, Nat.zero_le _, rfl⟩
  case round =>
    obtain ⟨j, hj, rfl⟩ := hrel
    have hjk : (j : Int) < 2 * (n : Int) := by omega
    have C20 := hide (HC.out j hjk)
    clear HC
    go_wp2_with fail
    refine (unhide C20).mono ?_
    rintro e w1 ⟨rfl, rfl⟩
    clear C20
    by_cases he : ep l j = ep l k
    · have hd : ((ep l j).toList == (ep l k).toList) = true := (Lib.bytes_beq_iff _ _).2 he
      clear he
      go_wp2_with fail
      go_ret
      exact ⟨⟨_, rfl, ⟨fun _ => trivial, fun _ => by omega⟩, by omega, by omega⟩, rfl⟩
    · have hd : ((ep l j).toList == (ep l k).toList) = false := (Lib.bytes_beq_false_iff _ _).2 he
      have hjk2 : j < k := by
        by_cases e : j = k
        · exact absurd (by rw [e]) he
        · omega
      clear he
      go_wp2_with fail
      go_round
      case rel => exact ⟨j + 1, by omega, by go_num⟩
      case measure => simp [intOf]; omega
end Go.Proofs.Qxb6002694a

/-
  zzDecoderWithIndent (6) and what it calls: Reset (8), readerOf (11), reset (10), keySets.reset (13), truncate (14, 15).
-/
import Derived.Test.Qxb6604427aDoorLevel
import Derived.Deep.RegionHeld3
import Derived.Deep.DrawnRows
import Derived.BigRegion
import Derived.BigQuiet
namespace Go.Proofs.Qxb6604427aDoor
open Go.RowKit

theorem eff_any (ind : Int) (w : World) : Calls Tryd.prog 5 #[.int .i64 ind] w fun e w' => e = .returned (.int .i64 (if ind ≤ 0 then 2 else ind)) ∧ w' = w := by
  by_cases h : ind ≤ 0
  · go_enter Tryd.func5, Tryd.ntmps5
    go_wp2
    go_ret
    exact ⟨by simp, rfl⟩
  · go_enter Tryd.func5, Tryd.ntmps5
    go_wp2
    go_ret
    exact ⟨by simp, rfl⟩

/-- truncate at blocks[byte] and blocks[int]. -/
theorem trunc_b (b o : Nat) (n : Int) (w : World) (old : Value) (h0 : w.cell? ⟨b, o + 1, none⟩ = some old) (hf : w.frozen? ⟨b, o + 1, none⟩ = false) :
    Calls Tryd.prog 14 #[.pointer (some ⟨b, o, none⟩), .int .i64 n] w fun e w' => e = .returned (.tuple #[]) ∧ w' = w.setCell ⟨b, o + 1, none⟩ (.int .i64 n) := by
  go_enter Tryd.func14, Tryd.ntmps14
  go_wp2
  go_end0
  exact ⟨rfl, rfl⟩
theorem trunc_i (b o : Nat) (n : Int) (w : World) (old : Value) (h0 : w.cell? ⟨b, o + 1, none⟩ = some old) (hf : w.frozen? ⟨b, o + 1, none⟩ = false) :
    Calls Tryd.prog 15 #[.pointer (some ⟨b, o, none⟩), .int .i64 n] w fun e w' => e = .returned (.tuple #[]) ∧ w' = w.setCell ⟨b, o + 1, none⟩ (.int .i64 n) := by
  go_enter Tryd.func15, Tryd.ntmps15
  go_wp2
  go_end0
  exact ⟨rfl, rfl⟩

set_option maxRecDepth 100000
attribute [local go_sem ↓] Go.wp_at_zero Go.wp_at_succ
theorem clear_nil (w : World) : Sem.run Tryd.prog (Builtin.clear_ #[49] 0 #[Value.slice none 0 0]) w = .ok (.tuple #[]) w := by kernel_rfl
set_option maxHeartbeats 400000 in
/-- keySets.reset on a set that holds nothing. -/
theorem keys_any (b o : Nat) (w : World) (x1 x3 : Value) (h4 : w.cell? ⟨b, o + 4, none⟩ = some (.slice none 0 0)) (f4 : w.frozen? ⟨b, o + 4, none⟩ = false)
    (h1 : w.cell? ⟨b, o + 1, none⟩ = some x1) (f1 : w.frozen? ⟨b, o + 1, none⟩ = false) (h3 : w.cell? ⟨b, o + 3, none⟩ = some x3) (f3 : w.frozen? ⟨b, o + 3, none⟩ = false) :
    Calls Tryd.prog 13 #[.pointer (some ⟨b, o, none⟩)] w fun e w' => e = .returned (.tuple #[]) ∧ w' = (((w.setCell ⟨b, o + 4, none⟩ (.slice none 0 0)).setCell ⟨b, o + 1, none⟩ (.int .i64 0)).setCell ⟨b, o + 3, none⟩ (.int .i64 0)).drew := by
  have hclr := clear_nil
  go_enter Tryd.func13, Tryd.ntmps13
  go_wp2_with fail
  go_region_held3 (fun w' => w'.cell? ⟨b, o + 4, none⟩ = some (.slice none 0 0)) (go_keep) (fail)
  go_wp2_with fail
  refine (trunc_b b o 0 _ x1 (by simp [go_sem, h1]) (by simp [go_sem, f1])).mono ?_
  rintro e w' ⟨rfl, rfl⟩
  go_wp2_with fail
  refine (trunc_i b (o + 2) 0 _ x3 (by simp [go_sem, h3]) (by simp [go_sem, f3])).mono ?_
  rintro e w' ⟨rfl, rfl⟩
  go_wp2_with fail
  go_end0
  exact ⟨rfl, rfl⟩

set_option maxHeartbeats 400000 in
/-- readerOf(nil, lenient, nil). -/
theorem reader_any (len : Bool) (T : Nat) (a : Option Addr) (w : World) (h0 : w.cell? ⟨0, 0, none⟩ = some (.iface T (.pointer a))) (_hb : 0 < w.heap.size) :
    Calls Tryd.prog 11 #[.slice none 0 0, .bool len, .slice none 0 0] w fun e w' => e = .returned (.agg #[.nilIface, .slice none 0 0, .int .i64 0, .int .i64 0, .int .i64 0, .iface T (.pointer a), .bool len, .bool false, .slice none 0 0, .slice none 0 0, .slice none 0 0, .int .i64 0, .slice none 0 0, .int .i64 0, .int .i64 0, .int .i64 0, .bool false]) ∧
      w' = (w.alloc (.cells #[.nilIface, .slice none 0 0, .int .i64 0, .int .i64 0, .int .i64 0, .iface T (.pointer a), .bool len, .bool false, .slice none 0 0, .slice none 0 0, .slice none 0 0, .int .i64 0, .slice none 0 0, .int .i64 0, .int .i64 0, .int .i64 0, .bool false] 35)).drew := by
  go_enter Tryd.func11, Tryd.ntmps11
  go_wp2
  go_region_held3 (fun w' => w'.cell? ⟨0, 0, none⟩ = some (.iface T (.pointer a))) (go_keep) (fail)
  go_wp2
  simp [bodyPost, results, Tryd.results11, go_sem]
end Go.Proofs.Qxb6604427aDoor

/-
  toRegistryHold (25), equalHold (27).
-/
import Derived.Test.Qxb6002694aTrs
import Derived.Handy
namespace Go.Proofs.Qxb6002694a
open Go Go.RowKit
set_option maxRecDepth 100000
attribute [local go_sem ↓] Go.wp_at_zero Go.wp_at_succ

set_option maxHeartbeats 1000000 in
theorem hold25 (c : ByteArray) (e t : Int) (w : World) :
    Calls Try.prog 25 #[.agg #[.string c, .int .u64 e, .int .u64 t]] w fun r w' => r = .returned (.agg #[.string c, .int .u64 e, .int .u64 t]) ∧ Below w.heap.size w w' := by
  go_enter Try.func25, Try.ntmps25
  go_wp2_with fail
  go_returns
  exact ⟨rfl, ((Below.refl w.heap.size w).alloc (Nat.le_refl _) _).alloc (by simp) _⟩

set_option maxHeartbeats 1000000 in
theorem equal27 (c : ByteArray) (e t : Int) (w : World) :
    Calls Try.prog 27 #[.agg #[.string c, .int .u64 e, .int .u64 t], .agg #[.string c, .int .u64 e, .int .u64 t]] w fun r w' => r = .returned (.bool true) ∧ Below w.heap.size w w' := by
  have h0 : (e == e) = true := by simp
  have h1 : (t == t) = true := by simp
  have h2 : (c.toList == c.toList) = true := by simp
  go_enter Try.func27, Try.ntmps27
  go_wp2_with fail
  go_ret
  exact ⟨rfl, ((Below.refl w.heap.size w).alloc (Nat.le_refl _) _).alloc (by simp) _⟩
end Go.Proofs.Qxb6002694a

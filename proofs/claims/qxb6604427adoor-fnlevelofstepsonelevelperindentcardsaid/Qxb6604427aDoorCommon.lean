/-
  What both rows' proofs share: the listed variable's cell out of the row's hypothesis; the witness's world.
-/
import Derived.Test.Qxb6604427aDoorLaws
import Derived.ProofKit
import Derived.LaidMore
import Derived.LaidLaws
import Derived.Stop.Joined
import Derived.Stop.LaidErr
import Derived.MakeChecks
namespace Go.Proofs.Qxb6604427aDoor
open Go.ChangeShapes Go.WideShapes Go.ChangeAt Go.RowKit

theorem own : ownKnob Tryd.prog.godebug = none := by kernel_rfl
theorem gEOF : Tryd.prog.globalNamed "io.EOF" = some 0 := by kernel_rfl
theorem tEOF : (Tryd.prog.globals[0]?).map (·.type) = some 31 := by kernel_rfl
theorem cells125 : Tryd.prog.cellsOf 125 = 1 := by kernel_rfl
theorem cells9 : Tryd.prog.cellsOf 9 = 1 := by kernel_rfl
def nmOf : DataW Unit → String
  | .iface n _ => n
  | _ => ""
theorem row78 (u : TypeId) (h : Tryd.prog.typeName? 3 u = some (nmOf Rows.laid_io_EOF)) : u = 78 :=
  typeName_ptr_named (nm := "errors.errorString") (by kernel_rfl) (by kernel_rfl) (by decide) u (h.trans (congrArg some (by decide)))

/-- What the row's hypothesis gives: the variable's cell. -/
theorem eof_of_laid {W : World} (h : laidMetH Tryd.prog [("io.EOF", Rows.laid_io_EOF)] W) : ∃ a : Addr, W.cell? ⟨0, 0, none⟩ = some (.iface 78 (.pointer (some a))) := by
  rw [MakeChecks.laidMetH_plain _ _ _ (by kernel_rfl)] at h
  obtain ⟨a, s, hv, _, _, _⟩ := laid_sentinel h gEOF tEOF Tryd.underlying31 row78 Tryd.underlying78 Tryd.underlying125 rfl rfl Tryd.underlying9 cells125 cells9
  exact ⟨a, by simpa using World.var?_cell gEOF hv 0⟩

/-- The door's own heap meets the condition. -/
theorem door_met (os : Os) (args : Array Value) : laidMetH Tryd.prog [("io.EOF", Rows.laid_io_EOF)] ((World.doorLaid Tryd.prog 400 os).forCall (fun _ _ => 0) ⟨#[], args, []⟩).memory :=
  laidMetH_of_parts3 (fuel := 8) (laidMet_of_run' 8 (by kernel_rfl) (by kernel_rfl)) (by kernel_rfl) (by kernel_rfl)

theorem bounds_i64 {x : Int} (h : (Lit.int .i64 x).wf = true) : -9223372036854775808 ≤ x ∧ x ≤ 9223372036854775807 := by
  simp [Lit.wf, IntKind.min, IntKind.max, IntKind.signed, IntKind.bits] at h
  omega
end Go.Proofs.Qxb6604427aDoor

/-
  Seat b6001095aD: what the listed variables give the walks; the start that fits (the heap that the door's own run leaves).
-/
import Derived.Test.Qxb6001095aDoorRows
import Derived.Test.Qxb6001095aDoorUnesc
import Derived.ProofKit
import Derived.LaidMore
import Derived.OpenShut
import Derived.Stop.Joined
import Derived.Stop.LaidErr
namespace Go.Proofs.Qxb6001095aDoor
open Go.ChangeShapes Go.WideShapes Go.ChangeAt Go.WideMaps Go.WideElems Go.RowKit

def laid5 : List (String × DataW Unit) := [("math/bits.deBruijn32tab", Rows.laid_math_bits_deBruijn32tab), ("math/bits.deBruijn64tab", Rows.laid_math_bits_deBruijn64tab), ("internal/strconv.uint64pow10", Rows.laid_internal_strconv_uint64pow10), ("strconv.ErrRange", Rows.laid_strconv_ErrRange), ("strconv.ErrSyntax", Rows.laid_strconv_ErrSyntax)]

theorem own : ownKnob Tryd.prog.godebug = none := by kernel_rfl
theorem gSyn : Tryd.prog.globalNamed "strconv.ErrSyntax" = some 2 := by kernel_rfl
theorem gRan : Tryd.prog.globalNamed "strconv.ErrRange" = some 3 := by kernel_rfl
theorem tSyn : (Tryd.prog.globals[2]?).map (·.type) = some 52 := by kernel_rfl
theorem tRan : (Tryd.prog.globals[3]?).map (·.type) = some 52 := by kernel_rfl
theorem c102 : Tryd.prog.cellsOf 102 = 1 := by kernel_rfl
theorem c9 : Tryd.prog.cellsOf 9 = 1 := by kernel_rfl
theorem star : "*" ++ "errors.errorString" = "*errors.errorString" := by decide
/-- The one row of that name. -/
theorem row100 (u : TypeId) (h : Tryd.prog.typeName? 3 u = some "*errors.errorString") : u = 100 :=
  typeName_ptr_named (nm := "errors.errorString") (by rw [star]; kernel_rfl) (by kernel_rfl) (by decide) u (by rw [star]; exact h)

/-- The door's own heap meets the condition. -/
theorem door_met (os : Os) (args : Array Value) : laidMetH Tryd.prog laid5 ((World.doorLaid Tryd.prog 96 os).forCall (fun _ _ => 0) ⟨#[], args, []⟩).memory :=
  laidMetH_of_parts3 (fuel := 8) (laidMet_of_run' 8 (by kernel_rfl) (by kernel_rfl)) (by kernel_rfl) (by kernel_rfl)

/-- What the condition gives the walks. -/
theorem of_laid {W : World} (h : laidMetH Tryd.prog laid5 W) : LaidIs W := by
  rw [MakeChecks.laidMetH_plain _ _ _ (by kernel_rfl)] at h
  obtain ⟨a1, s1, hv1, -, -, -⟩ := laid_sentinel h.tail.tail.tail gRan tRan Tryd.underlying52 row100 Tryd.underlying100 Tryd.underlying102 rfl rfl Tryd.underlying9 c102 c9
  obtain ⟨a0, s0, hv0, -, -, -⟩ := laid_sentinel h.tail.tail.tail.tail gSyn tSyn Tryd.underlying52 row100 Tryd.underlying100 Tryd.underlying102 rfl rfl Tryd.underlying9 c102 c9
  have e0 : W.cell? ⟨2, 0, none⟩ = some (.iface 100 (.pointer (some a0))) := by have h0 := World.var?_cell gSyn hv0 0; simpa using h0
  have e1 : W.cell? ⟨3, 0, none⟩ = some (.iface 100 (.pointer (some a1))) := by have h0 := World.var?_cell gRan hv1 0; simpa using h0
  exact ⟨⟨_, _, e0⟩, ⟨_, _, e1⟩, World.block_lt_of_cell? _ _ e1⟩
end Go.Proofs.Qxb6001095aDoor

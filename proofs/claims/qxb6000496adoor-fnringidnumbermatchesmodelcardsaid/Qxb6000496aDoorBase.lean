/-
  Seat b6000496aD: what the listed variables give the walks; the start that fits (the heap that the door's own run leaves).
-/
import Derived.Test.Qxb6000496aDoorRows
import Derived.Test.Qxb6000496aDoorWalksC
import Derived.ProofKit
import Derived.LaidMore
import Derived.OpenShut
import Derived.Stop.Joined
import Derived.Stop.LaidErr
import Derived.Lib.LaidTab
namespace Go.Proofs.Qxb6000496aDoor
open Go.ChangeShapes Go.WideShapes Go.ChangeAt Go.WideMaps Go.WideElems Go.RowKit

def laid5 : List (String × DataW Unit) := [("math/bits.deBruijn32tab", Rows.laid_math_bits_deBruijn32tab), ("math/bits.deBruijn64tab", Rows.laid_math_bits_deBruijn64tab), ("internal/strconv.uint64pow10", Rows.laid_internal_strconv_uint64pow10), ("strconv.ErrRange", Rows.laid_strconv_ErrRange), ("strconv.ErrSyntax", Rows.laid_strconv_ErrSyntax)]

theorem own : ownKnob Tryd.prog.godebug = none := by kernel_rfl
theorem gTab : Tryd.prog.globalNamed "internal/strconv.uint64pow10" = some 2 := by kernel_rfl
theorem gSyn : Tryd.prog.globalNamed "strconv.ErrSyntax" = some 0 := by kernel_rfl
theorem gRan : Tryd.prog.globalNamed "strconv.ErrRange" = some 1 := by kernel_rfl
theorem tTab : (Tryd.prog.globals[2]?).map (·.type) = some 66 := by kernel_rfl
theorem tSyn : (Tryd.prog.globals[0]?).map (·.type) = some 35 := by kernel_rfl
theorem tRan : (Tryd.prog.globals[1]?).map (·.type) = some 35 := by kernel_rfl
theorem c46 : Tryd.prog.cellsOf 46 = 1 := by kernel_rfl
theorem c66 : Tryd.prog.cellsOf 66 = 20 := by kernel_rfl
theorem c63 : Tryd.prog.cellsOf 63 = 1 := by kernel_rfl
theorem c9 : Tryd.prog.cellsOf 9 = 1 := by kernel_rfl
theorem star : "*" ++ "errors.errorString" = "*errors.errorString" := by decide
/-- The one row of that name. -/
theorem row61 (u : TypeId) (h : Tryd.prog.typeName? 3 u = some "*errors.errorString") : u = 61 :=
  typeName_ptr_named (nm := "errors.errorString") (by rw [star]; kernel_rfl) (by kernel_rfl) (by decide) u (by rw [star]; exact h)

theorem tab_is : (Rows.laid_internal_strconv_uint64pow10 : DataW Unit) = Lib.tabData .u64 Lib.pow10Tab := by kernel_rfl

/-- The door's own heap meets the condition. -/
theorem door_met (os : Os) (args : Array Value) : laidMetH Tryd.prog laid5 ((World.doorLaid Tryd.prog 62 os).forCall (fun _ _ => 0) ⟨#[], args, []⟩).memory :=
  laidMetH_of_parts3 (fuel := 8) (laidMet_of_run' 8 (by kernel_rfl) (by kernel_rfl)) (by kernel_rfl) (by kernel_rfl)

/-- What the condition gives the walks. -/
theorem of_laid {W : World} (h : laidMetH Tryd.prog laid5 W) : LaidIs W := by
  rw [MakeChecks.laidMetH_plain _ _ _ (by kernel_rfl)] at h
  have h2 : laidMet Tryd.prog (("internal/strconv.uint64pow10", Lib.tabData .u64 Lib.pow10Tab) :: [("strconv.ErrRange", Rows.laid_strconv_ErrRange), ("strconv.ErrSyntax", Rows.laid_strconv_ErrSyntax)]) W := by
    rw [← tab_is]
    exact h.tail.tail
  obtain ⟨a1, s1, hv1, -, -, -⟩ := laid_sentinel h2.tail gRan tRan Tryd.underlying35 row61 Tryd.underlying61 Tryd.underlying63 rfl rfl Tryd.underlying9 c63 c9
  obtain ⟨a0, s0, hv0, -, -, -⟩ := laid_sentinel h2.tail.tail gSyn tSyn Tryd.underlying35 row61 Tryd.underlying61 Tryd.underlying63 rfl rfl Tryd.underlying9 c63 c9
  exact ⟨Lib.tabIs_of_head gTab tTab Tryd.underlying66 Tryd.underlying46 c46 c66 h2, ⟨_, _, hv0⟩, ⟨_, _, hv1⟩⟩
end Go.Proofs.Qxb6000496aDoor

/-
  Qxb6000912aDoor: what the listed variables give the walks; the start that fits (the heap that the door's own run leaves).
-/
import Derived.Test.Qxb6000912aDoorRows
import Derived.ProofKit
import Derived.LaidMore
import Derived.OpenShut
import Derived.Stop.Joined
import Derived.Stop.LaidErr
import Derived.Lib.LaidTab
import Derived.Lib.ItoaNum
namespace Go.Proofs.Qxb6000912aDoor
open Go.ChangeShapes Go.WideShapes Go.ChangeAt Go.WideMaps Go.WideElems Go.RowKit

def laid3 : List (String × DataW Unit) := [("math/bits.deBruijn32tab", Rows.laid_math_bits_deBruijn32tab), ("math/bits.deBruijn64tab", Rows.laid_math_bits_deBruijn64tab), ("internal/strconv.uint64pow10", Rows.laid_internal_strconv_uint64pow10)]

theorem own : ownKnob Tryd.prog.godebug = none := by kernel_rfl
theorem gTab : Tryd.prog.globalNamed "internal/strconv.uint64pow10" = some 0 := by kernel_rfl
theorem tTab : (Tryd.prog.globals[0]?).map (·.type) = some 42 := by kernel_rfl
theorem c34 : Tryd.prog.cellsOf 34 = 1 := by kernel_rfl
theorem c42 : Tryd.prog.cellsOf 42 = 20 := by kernel_rfl
theorem tab_is : (Rows.laid_internal_strconv_uint64pow10 : DataW Unit) = Lib.tabData .u64 Lib.pow10Tab := by kernel_rfl

/-- The door's own heap meets the condition. -/
theorem door_met (os : Os) (args : Array Value) : laidMetH Tryd.prog laid3 ((World.doorLaid Tryd.prog 24 os).forCall (fun _ _ => 0) ⟨#[], args, []⟩).memory :=
  laidMetH_of_parts3 (fuel := 8) (laidMet_of_run' 8 (by kernel_rfl) (by kernel_rfl)) (by kernel_rfl) (by kernel_rfl)

/-- What the condition gives the walks. -/
theorem of_laid {W : World} (h : laidMetH Tryd.prog laid3 W) : Lib.TabIs Tryd.prog W "internal/strconv.uint64pow10" .u64 Lib.pow10Tab := by
  rw [MakeChecks.laidMetH_plain _ _ _ (by kernel_rfl)] at h
  have h2 : laidMet Tryd.prog (("internal/strconv.uint64pow10", Lib.tabData .u64 Lib.pow10Tab) :: []) W := by
    rw [← tab_is]
    exact h.tail.tail
  exact Lib.tabIs_of_head gTab tTab Tryd.underlying42 Tryd.underlying34 c34 c42 h2

/-- An int64 as the form hands it over lies within its bounds. -/
theorem i64_bounds {n : Int} (h : (Lit.int .i64 n).wf = true) : -9223372036854775808 ≤ n ∧ n ≤ 9223372036854775807 := by
  have e1 : IntKind.i64.min = -9223372036854775808 := rfl
  have e2 : IntKind.i64.max = 9223372036854775807 := rfl
  simp [Lit.wf, e1, e2] at h
  omega
/-- A uint8 likewise. -/
theorem u8_bounds {n : Int} (h : (Lit.int .u8 n).wf = true) : 0 ≤ n ∧ n ≤ 255 := by
  have e1 : IntKind.u8.min = 0 := rfl
  have e2 : IntKind.u8.max = 255 := rfl
  simp [Lit.wf, e1, e2] at h
  omega
end Go.Proofs.Qxb6000912aDoor

/-
  Seat b6001095aD: the head of the dump, sign by sign, so that the kernel need not decode it.
-/
import Derived.Test.Qxb6001095aDoorRows
import Derived.JoinedOf
namespace Go.Proofs.Qxb6001095aDoor
open Go
/-- The head of the dump, sign by sign. -/
def headCodes : List Nat := [104, 97, 114, 110, 101, 115, 115, 32, 54, 57, 56, 101, 50, 50, 48, 101, 52, 97, 50, 57, 48, 50, 50, 51, 51, 56, 51, 48, 99, 55, 101, 56, 50, 97, 52, 49, 55, 101, 99, 55, 53, 101, 51, 100, 55, 50, 48, 99, 54, 56, 51, 99, 102, 56, 57, 48, 99, 100, 50, 102, 57, 49, 99, 50, 97, 48, 101, 49, 98, 102, 49, 102, 32, 99, 117, 116, 32, 97, 116, 32, 101, 120, 97, 109, 112, 108, 101, 46, 99, 111, 109, 47, 115, 116, 111, 119, 104, 111, 108, 100, 47, 115, 116, 111, 119, 104, 111, 108, 100, 47, 122, 122, 108, 97, 119, 115, 95, 105, 110, 116, 101, 114, 110, 97, 108, 95, 109, 111, 117, 110, 116, 105, 110, 102, 111, 95, 98, 49, 46, 70, 110, 85, 110, 101, 115, 99, 97, 112, 101, 80, 97, 116, 104, 73, 110, 118, 101, 114, 116, 115, 69, 115, 99, 97, 112, 101, 32, 101, 120, 97, 109, 112, 108, 101, 46, 99, 111, 109, 47, 115, 116, 111, 119, 104, 111, 108, 100, 47, 115, 116, 111, 119, 104, 111, 108, 100, 47, 122, 122, 108, 97, 119, 115, 95, 105, 110, 116, 101, 114, 110, 97, 108, 95, 109, 111, 117, 110, 116, 105, 110, 102, 111, 95, 98, 49, 46, 70, 110, 85, 110, 101, 115, 99, 97, 112, 101, 80, 97, 116, 104, 83, 104, 114, 105, 110, 107, 115, 66, 121, 87, 104, 111, 108, 101, 69, 115, 99, 97, 112, 101, 115, 32, 101, 120, 97, 109, 112, 108, 101, 46, 99, 111, 109, 47, 115, 116, 111, 119, 104, 111, 108, 100, 47, 115, 116, 111, 119, 104, 111, 108, 100, 47, 122, 122, 108, 97, 119, 115, 95, 105, 110, 116, 101, 114, 110, 97, 108, 95, 109, 111, 117, 110, 116, 105, 110, 102, 111, 95, 98, 49, 46, 70, 110, 72, 97, 115, 79, 112, 116, 105, 111, 110, 83, 112, 108, 105, 116, 115, 79, 118, 101, 114, 67, 111, 109, 109, 97, 32, 101, 120, 97, 109, 112, 108, 101, 46, 99, 111, 109, 47, 115, 116, 111, 119, 104, 111, 108, 100, 47, 115, 116, 111, 119, 104, 111, 108, 100, 47, 122, 122, 108, 97, 119, 115, 95, 105, 110, 116, 101, 114, 110, 97, 108, 95, 109, 111, 117, 110, 116, 105, 110, 102, 111, 95, 98, 49, 46, 70, 110, 72, 97, 115, 79, 112, 116, 105, 111, 110, 77, 97, 116, 99, 104, 101, 115, 67, 111, 109, 109, 97, 66, 111, 117, 110, 100, 101, 100, 79, 99, 99, 117, 114, 114, 101, 110, 99, 101, 32, 101, 120, 97, 109, 112, 108, 101, 46, 99, 111, 109, 47, 115, 116, 111, 119, 104, 111, 108, 100, 47, 115, 116, 111, 119, 104, 111, 108, 100, 47, 122, 122, 108, 97, 119, 115, 95, 105, 110, 116, 101, 114, 110, 97, 108, 95, 109, 111, 117, 110, 116, 105, 110, 102, 111, 95, 98, 49, 46, 70, 110, 72, 97, 115, 79, 112, 116, 105, 111, 110, 82, 101, 102, 117, 115, 101, 115, 67, 111, 109, 109, 97, 72, 111, 108, 100, 105, 110, 103, 79, 112, 116, 105, 111, 110, 32, 101, 120, 97, 109, 112, 108, 101, 46, 99, 111, 109, 47, 115, 116, 111, 119, 104, 111, 108, 100, 47, 115, 116, 111, 119, 104, 111, 108, 100, 47, 122, 122, 108, 97, 119, 115, 95, 105, 110, 116, 101, 114, 110, 97, 108, 95, 109, 111, 117, 110, 116, 105, 110, 102, 111, 95, 98, 49, 46, 70, 110, 80, 97, 114, 115, 101, 83, 112, 108, 105, 116, 115, 79, 118, 101, 114, 78, 101, 119, 108, 105, 110, 101, 32, 101, 120, 97, 109, 112, 108, 101, 46, 99, 111, 109, 47, 115, 116, 111, 119, 104, 111, 108, 100, 47, 115, 116, 111, 119, 104, 111, 108, 100, 47, 122, 122, 108, 97, 119, 115, 95, 105, 110, 116, 101, 114, 110, 97, 108, 95, 109, 111, 117, 110, 116, 105, 110, 102, 111, 95, 98, 49, 46, 70, 110, 80, 97, 114, 115, 101, 72, 111, 110, 111, 117, 114, 115, 73, 116, 115, 83, 104, 97, 112, 101, 32, 101, 120, 97, 109, 112, 108, 101, 46, 99, 111, 109, 47, 115, 116, 111, 119, 104, 111, 108, 100, 47, 115, 116, 111, 119, 104, 111, 108, 100, 47, 122, 122, 108, 97, 119, 115, 95, 105, 110, 116, 101, 114, 110, 97, 108, 95, 109, 111, 117, 110, 116, 105, 110, 102, 111, 95, 98, 49, 46, 70, 110, 80, 97, 114, 115, 101, 73, 110, 118, 101, 114, 116, 115, 82, 101, 110, 100, 101, 114]
set_option maxRecDepth 100000 in
theorem head_is : Tryd.prog.initOrder = String.ofList (headCodes.map Char.ofNat) := by kernel_rfl
theorem head_list : Tryd.prog.initOrder.toList = headCodes.map Char.ofNat := by rw [head_is, String.toList_ofList]
theorem head_first : (behindMainWord (wordsSigns (headCodes.map Char.ofNat))).head? = some "cut".toList := by kernel_rfl

theorem strip_cut (r : List (List Char)) : stripLifts liftWords ("cut".toList :: r) = ([], "cut".toList :: r) := by kernel_rfl

theorem make_gen (P : Program) (l : List Char) (h : P.initOrder.toList = l) (h2 : (behindMainWord (wordsSigns l)).head? = some "cut".toList) : P.make = some .cut := by
  unfold Program.make
  rw [h]
  cases e : behindMainWord (wordsSigns l) with
  | nil => rw [e] at h2; cases h2
  | cons c r =>
    rw [e] at h2
    simp only [List.head?_cons, Option.some.injEq] at h2
    subst h2
    rfl
theorem enter_gen (P : Program) (l : List Char) (h : P.initOrder.toList = l) (h2 : (behindMainWord (wordsSigns l)).head? = some "cut".toList) (h3 : P.laysLater = false) (h4 : P.bearsReflect = false) (h5 : P.doorFits [] = true) : P.mayEnter = true := by
  unfold Program.mayEnter
  rw [h]
  cases e : behindMainWord (wordsSigns l) with
  | nil => rw [e] at h2; cases h2
  | cons c r =>
    rw [e] at h2
    simp only [List.head?_cons, Option.some.injEq] at h2
    subst h2
    simp only [strip_cut, h3, h4, h5]
    rfl
theorem lifts_gen (P : Program) (l : List Char) (h : P.initOrder.toList = l) (h2 : (behindMainWord (wordsSigns l)).head? = some "cut".toList) : P.headLifts = [] := by
  unfold Program.headLifts
  rw [h]
  cases e : behindMainWord (wordsSigns l) with
  | nil => rw [e] at h2; cases h2
  | cons c r =>
    rw [e] at h2
    simp only [List.head?_cons, Option.some.injEq] at h2
    subst h2
    simp only [strip_cut]
    rfl
theorem final_gen (P : Program) (l : List Char) (h : P.initOrder.toList = l) (h2 : (behindMainWord (wordsSigns l)).head? = some "cut".toList) : P.liftsFinal = false := by
  unfold Program.liftsFinal
  rw [lifts_gen P l h h2, h]
  cases e : behindMainWord (wordsSigns l) with
  | nil => rw [e] at h2; cases h2
  | cons c r =>
    rw [e] at h2
    simp only [List.head?_cons, Option.some.injEq] at h2
    subst h2
    rfl
theorem main_gen (P : Program) (l s : List Char) (r : List (List Char)) (h : P.initOrder.toList = l) (h2 : wordsSigns l = "harness".toList :: s :: r) (h3 : isSumSigns s = true) : P.mainIs = some (true, s) := by
  unfold Program.mainIs
  rw [h, h2]
  simp only [h3]
  rfl

theorem make_is : Tryd.prog.make = some .cut := make_gen _ _ head_list head_first
theorem lays_later : Tryd.prog.laysLater = false := by kernel_rfl
theorem bears_reflect : Tryd.prog.bearsReflect = false := by kernel_rfl
theorem door_fits : Tryd.prog.doorFits [] = true := by kernel_rfl
theorem may_enter : Tryd.prog.mayEnter = true := enter_gen _ _ head_list head_first lays_later bears_reflect door_fits
theorem lifts_final : Tryd.prog.liftsFinal = false := final_gen _ _ head_list head_first
def headSum : List Char := "698e220e4a2902233830c7e82a417ec75e3d720c683cf890cd2f91c2a0e1bf1f".toList
theorem head_two : wordsSigns (headCodes.map Char.ofNat) = "harness".toList :: headSum :: (wordsSigns (headCodes.map Char.ofNat)).tail.tail := by kernel_rfl
theorem sum_signs : isSumSigns headSum = true := by kernel_rfl
theorem main_is : Tryd.prog.mainIs = some (true, "698e220e4a2902233830c7e82a417ec75e3d720c683cf890cd2f91c2a0e1bf1f".toList) := main_gen _ _ headSum _ head_list head_two sum_signs
end Go.Proofs.Qxb6001095aDoor

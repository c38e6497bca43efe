/-
  THE CLOSED FACTS ON THE PROGRAM's HEAD, each a lemma of its own: the kernel reckons the words of the head from a list of numbers (from the text itself it outgrows the memory's lid).
-/
import Derived.Test.Qxb6001659aRows
import Derived.JoinedOf
import Derived.KernelRfl
namespace Go.Proofs.Qxb6001659a.Facts

/-- The head's signs, by their numbers. -/
def signs : List Nat := [
  104, 97, 114, 110, 101, 115, 115, 32, 100, 97, 51, 101, 48, 98, 102, 99, 51, 52, 49, 51, 101, 101, 55, 50, 100, 52, 53, 54, 99, 98, 57, 50, 53, 98, 53, 48, 97, 97, 97, 49, 98, 98, 49, 97, 101, 48, 48, 102, 57, 52, 56, 101, 51, 53, 98, 52, 102, 57, 57, 98,
  55, 55, 57, 52, 50, 53, 55, 56, 55, 100, 48, 57, 32, 99, 117, 116, 32, 97, 116, 32, 101, 120, 97, 109, 112, 108, 101, 46, 99, 111, 109, 47, 116, 105, 100, 101, 119, 97, 116, 99, 104, 47, 116, 105, 100, 101, 119, 97, 116, 99, 104, 47, 122, 122, 108, 97, 119, 115, 95, 105,
  110, 116, 101, 114, 110, 97, 108, 95, 114, 101, 115, 112, 95, 103, 49, 46, 70, 110, 83, 112, 108, 105, 116, 65, 114, 103, 115, 82, 101, 102, 117, 115, 101, 115, 85, 110, 99, 108, 111, 115, 101, 100, 81, 117, 111, 116, 101, 32, 101, 120, 97, 109, 112, 108, 101, 46, 99, 111, 109, 47,
  116, 105, 100, 101, 119, 97, 116, 99, 104, 47, 116, 105, 100, 101, 119, 97, 116, 99, 104, 47, 122, 122, 108, 97, 119, 115, 95, 105, 110, 116, 101, 114, 110, 97, 108, 95, 114, 101, 115, 112, 95, 103, 49, 46, 70, 110, 83, 112, 108, 105, 116, 65, 114, 103, 115, 82, 101, 102, 117, 115,
  101, 115, 84, 101, 120, 116, 71, 108, 117, 101, 100, 84, 111, 67, 108, 111, 115, 105, 110, 103, 81, 117, 111, 116, 101, 32, 101, 120, 97, 109, 112, 108, 101, 46, 99, 111, 109, 47, 116, 105, 100, 101, 119, 97, 116, 99, 104, 47, 116, 105, 100, 101, 119, 97, 116, 99, 104, 47, 122, 122,
  108, 97, 119, 115, 95, 105, 110, 116, 101, 114, 110, 97, 108, 95, 115, 101, 108, 101, 99, 116, 105, 111, 110, 95, 103, 49, 46, 70, 110, 66, 101, 115, 116, 73, 115, 70, 105, 114, 115, 116, 76, 101, 97, 115, 116, 69, 108, 105, 103, 105, 98, 108, 101, 32, 101, 120, 97, 109, 112, 108,
  101, 46, 99, 111, 109, 47, 116, 105, 100, 101, 119, 97, 116, 99, 104, 47, 116, 105, 100, 101, 119, 97, 116, 99, 104, 47, 122, 122, 108, 97, 119, 115, 95, 105, 110, 116, 101, 114, 110, 97, 108, 95, 115, 101, 108, 101, 99, 116, 105, 111, 110, 95, 103, 49, 46, 70, 110, 80, 97, 115,
  115, 101, 100, 79, 118, 101, 114, 69, 120, 112, 108, 97, 105, 110, 115, 66, 101, 115, 116, 32, 101, 120, 97, 109, 112, 108, 101, 46, 99, 111, 109, 47, 116, 105, 100, 101, 119, 97, 116, 99, 104, 47, 116, 105, 100, 101, 119, 97, 116, 99, 104, 47, 122, 122, 108, 97, 119, 115, 95, 105,
  110, 116, 101, 114, 110, 97, 108, 95, 115, 101, 108, 101, 99, 116, 105, 111, 110, 95, 103, 49, 46, 70, 110, 66, 101, 115, 116, 79, 114, 100, 101, 114, 70, 114, 101, 101, 32, 101, 120, 97, 109, 112, 108, 101, 46, 99, 111, 109, 47, 116, 105, 100, 101, 119, 97, 116, 99, 104, 47, 116,
  105, 100, 101, 119, 97, 116, 99, 104, 47, 122, 122, 108, 97, 119, 115, 95, 105, 110, 116, 101, 114, 110, 97, 108, 95, 115, 101, 108, 101, 99, 116, 105, 111, 110, 95, 103, 49, 46, 70, 110, 67, 111, 109, 112, 97, 114, 101, 83, 116, 114, 105, 99, 116, 79, 114, 100, 101, 114, 32, 101,
  120, 97, 109, 112, 108, 101, 46, 99, 111, 109, 47, 116, 105, 100, 101, 119, 97, 116, 99, 104, 47, 116, 105, 100, 101, 119, 97, 116, 99, 104, 47, 122, 122, 108, 97, 119, 115, 95, 105, 110, 116, 101, 114, 110, 97, 108, 95, 115, 101, 114, 118, 101, 114, 95, 103, 49, 46, 70, 110, 83,
  116, 97, 116, 117, 115, 79, 102, 67, 111, 110, 99, 97, 116, 101, 110, 97, 116, 105, 111, 110, 73, 115, 87, 111, 114, 115, 101, 79, 102, 80, 97, 114, 116, 115, 32, 101, 120, 97, 109, 112, 108, 101, 46, 99, 111, 109, 47, 116, 105, 100, 101, 119, 97, 116, 99, 104, 47, 116, 105, 100,
  101, 119, 97, 116, 99, 104, 47, 122, 122, 108, 97, 119, 115, 95, 105, 110, 116, 101, 114, 110, 97, 108, 95, 115, 105, 109, 95, 103, 49, 46, 70, 110, 67, 111, 109, 109, 97, 110, 100, 65, 114, 103, 115, 82, 101, 116, 117, 114, 110, 115, 84, 104, 101, 66, 117, 108, 107, 83, 116, 114,
  105, 110, 103, 115, 79, 102, 65, 110, 65, 114, 114, 97, 121, 32, 101, 120, 97, 109, 112, 108, 101, 46, 99, 111, 109, 47, 116, 105, 100, 101, 119, 97, 116, 99, 104, 47, 116, 105, 100, 101, 119, 97, 116, 99, 104, 47, 122, 122, 108, 97, 119, 115, 95, 105, 110, 116, 101, 114, 110, 97,
  108, 95, 115, 105, 109, 95, 103, 49, 46, 70, 110, 67, 111, 109, 109, 97, 110, 100, 65, 114, 103, 115, 82, 101, 102, 117, 115, 101, 115, 79, 110, 101, 66, 97, 100, 69, 108, 101, 109, 101, 110, 116, 32, 101, 120, 97, 109, 112, 108, 101, 46, 99, 111, 109, 47, 116, 105, 100, 101, 119,
  97, 116, 99, 104, 47, 116, 105, 100, 101, 119, 97, 116, 99, 104, 47, 122, 122, 108, 97, 119, 115, 95, 105, 110, 116, 101, 114, 110, 97, 108, 95, 119, 105, 114, 101, 95, 103, 49, 46, 70, 110, 73, 115, 82, 117, 110, 73, 68, 73, 115, 76, 111, 119, 101, 114, 72, 101, 120, 79, 102,
  50, 48, 66, 121, 116, 101, 115]

def cs : List Char := signs.map Char.ofNat

theorem order_eq : Try.prog.initOrder = String.ofList cs := by kernel_rfl
theorem order_toList : Try.prog.initOrder.toList = cs := by rw [order_eq, String.toList_ofList]

/-- The words behind the first two. -/
def behind : List (List Char) := behindMainWord (wordsSigns cs)
theorem behind_cut : behind = [99, 117, 116].map Char.ofNat :: behind.tail := by kernel_rfl
theorem behind_eq : behindMainWord (wordsSigns Try.prog.initOrder.toList) = [99, 117, 116].map Char.ofNat :: behind.tail := by
  rw [order_toList]; exact behind_cut

def cut : List Char := [99, 117, 116].map Char.ofNat
theorem strip_cut (rest : List (List Char)) : stripLifts liftWords (cut :: rest) = ([], cut :: rest) := by kernel_rfl

theorem mayEnter_of {P : Program} {rest : List (List Char)} (h : behindMainWord (wordsSigns P.initOrder.toList) = cut :: rest) (h1 : P.laysLater = false) (h2 : P.bearsReflect = false)
    (h3 : P.doorFits [] = true) : P.mayEnter = true := by
  unfold Program.mayEnter
  rw [h]
  simp only [strip_cut, h1, h2, h3]
  kernel_rfl

theorem headLifts_of {P : Program} {rest : List (List Char)} (h : behindMainWord (wordsSigns P.initOrder.toList) = cut :: rest) : P.headLifts = [] := by
  unfold Program.headLifts
  rw [h, strip_cut]
  kernel_rfl

theorem liftsFinal_of {P : Program} {rest : List (List Char)} (h : behindMainWord (wordsSigns P.initOrder.toList) = cut :: rest) : P.liftsFinal = false := by
  unfold Program.liftsFinal
  rw [h, headLifts_of h]
  kernel_rfl

theorem make_of {P : Program} {rest : List (List Char)} (h : behindMainWord (wordsSigns P.initOrder.toList) = cut :: rest) : P.make = some .cut := by
  unfold Program.make
  rw [h]
  kernel_rfl

theorem laysLater : Try.prog.laysLater = false := by kernel_rfl
theorem bearsReflect : Try.prog.bearsReflect = false := by kernel_rfl
theorem doorFits : Try.prog.doorFits [] = true := by kernel_rfl
theorem mayEnter : Try.prog.mayEnter = true := mayEnter_of behind_eq laysLater bearsReflect doorFits
theorem liftsFinal : Try.prog.liftsFinal = false := liftsFinal_of behind_eq
theorem make : Try.prog.make = some .cut := make_of behind_eq

end Go.Proofs.Qxb6001659a.Facts

/-
  The closed facts of the program that the rows ask, the dear ones by a cheaper road: the head of the dump as a list of signs, and lemmas that look at its first words alone.
  (By one reckoning of the kernel the whole takes some 15 GB; so it takes under 3.)
-/
import Derived.Test.Qxb6002662aRows
import Derived.JoinedOf
namespace Go.Proofs.Qxb6002662a.Closed

/-- The head of the dump, sign by sign. -/
def signs : List Char := ([104, 97, 114, 110, 101, 115, 115, 32, 101, 97, 100, 99, 53, 53, 51, 51, 98, 48, 101, 50, 52, 101, 49, 57, 98, 49, 51, 99, 49, 100, 57, 97, 98, 101, 52, 100, 51, 101, 51, 52, 99, 50, 99, 56, 51, 48, 97, 97, 50, 57, 52, 101, 97, 51, 99, 99, 49, 48, 99, 99, 49, 55, 50, 51, 50, 54, 99, 57, 57, 101, 52, 51, 32, 99, 117, 116, 32, 97, 116, 32, 101, 120, 97, 109, 112, 108, 101, 46, 99, 111, 109, 47, 99, 111, 110, 102, 105, 103, 45, 118, 97, 108, 117, 101, 45, 114, 101, 115, 111, 108, 118, 101, 114, 47, 99, 111, 110, 102, 105, 103, 45, 118, 97, 108, 117, 101, 45, 114, 101, 115, 111, 108, 118, 101, 114, 47, 122, 122, 108, 97, 119, 115, 95, 114, 111, 111, 116, 95, 98, 49, 46, 70, 110, 75, 101, 121, 79, 102, 76, 105, 116, 116, 108, 101, 69, 110, 100, 105, 97, 110, 80, 114, 101, 102, 105, 120, 32, 101, 120, 97, 109, 112, 108, 101, 46, 99, 111, 109, 47, 99, 111, 110, 102, 105, 103, 45, 118, 97, 108, 117, 101, 45, 114, 101, 115, 111, 108, 118, 101, 114, 47, 99, 111, 110, 102, 105, 103, 45, 118, 97, 108, 117, 101, 45, 114, 101, 115, 111, 108, 118, 101, 114, 47, 122, 122, 108, 97, 119, 115, 95, 114, 111, 111, 116, 95, 98, 49, 46, 70, 110, 75, 101, 121, 79, 102, 83, 97, 109, 101, 76, 101, 110, 103, 116, 104, 84, 101, 108, 108, 115, 65, 112, 97, 114, 116, 32, 101, 120, 97, 109, 112, 108, 101, 46, 99, 111, 109, 47, 99, 111, 110, 102, 105, 103, 45, 118, 97, 108, 117, 101, 45, 114, 101, 115, 111, 108, 118, 101, 114, 47, 99, 111, 110, 102, 105, 103, 45, 118, 97, 108, 117, 101, 45, 114, 101, 115, 111, 108, 118, 101, 114, 47, 122, 122, 108, 97, 119, 115, 95, 114, 111, 111, 116, 95, 98, 49, 46, 70, 110, 75, 101, 121, 79, 102, 83, 104, 111, 114, 116, 66, 111, 117, 110, 100, 76, 111, 110, 103, 84, 97, 105, 108, 66, 108, 105, 110, 100, 32, 101, 120, 97, 109, 112, 108, 101, 46, 99, 111, 109, 47, 99, 111, 110, 102, 105, 103, 45, 118, 97, 108, 117, 101, 45, 114, 101, 115, 111, 108, 118, 101, 114, 47, 99, 111, 110, 102, 105, 103, 45, 118, 97, 108, 117, 101, 45, 114, 101, 115, 111, 108, 118, 101, 114, 47, 122, 122, 108, 97, 119, 115, 95, 114, 111, 111, 116, 95, 98, 49, 46, 70, 110, 65, 112, 112, 101, 110, 100, 69, 115, 99, 97, 112, 101, 100, 82, 111, 117, 110, 100, 84, 114, 105, 112, 32, 101, 120, 97, 109, 112, 108, 101, 46, 99, 111, 109, 47, 99, 111, 110, 102, 105, 103, 45, 118, 97, 108, 117, 101, 45, 114, 101, 115, 111, 108, 118, 101, 114, 47, 99, 111, 110, 102, 105, 103, 45, 118, 97, 108, 117, 101, 45, 114, 101, 115, 111, 108, 118, 101, 114, 47, 122, 122, 108, 97, 119, 115, 95, 114, 111, 111, 116, 95, 98, 49, 46, 70, 110, 65, 112, 112, 101, 110, 100, 69, 115, 99, 97, 112, 101, 100, 80, 114, 101, 102, 105, 120, 65, 110, 100, 83, 112, 108, 105, 116, 32, 101, 120, 97, 109, 112, 108, 101, 46, 99, 111, 109, 47, 99, 111, 110, 102, 105, 103, 45, 118, 97, 108, 117, 101, 45, 114, 101, 115, 111, 108, 118, 101, 114, 47, 99, 111, 110, 102, 105, 103, 45, 118, 97, 108, 117, 101, 45, 114, 101, 115, 111, 108, 118, 101, 114, 47, 122, 122, 108, 97, 119, 115, 95, 114, 111, 111, 116, 95, 98, 49, 46, 70, 110, 65, 112, 112, 101, 110, 100, 69, 115, 99, 97, 112, 101, 100, 78, 111, 78, 101, 119, 108, 105, 110, 101, 69, 120, 97, 99, 116, 71, 114, 111, 119, 116, 104, 32, 101, 120, 97, 109, 112, 108, 101, 46, 99, 111, 109, 47, 99, 111, 110, 102, 105, 103, 45, 118, 97, 108, 117, 101, 45, 114, 101, 115, 111, 108, 118, 101, 114, 47, 99, 111, 110, 102, 105, 103, 45, 118, 97, 108, 117, 101, 45, 114, 101, 115, 111, 108, 118, 101, 114, 47, 122, 122, 108, 97, 119, 115, 95, 114, 111, 111, 116, 95, 98, 49, 46, 70, 110, 80, 105, 101, 99, 101, 115, 65, 100, 100, 85, 110, 108, 105, 109, 105, 116, 101, 100, 74, 111, 105, 110, 115, 32, 101, 120, 97, 109, 112, 108, 101, 46, 99, 111, 109, 47, 99, 111, 110, 102, 105, 103, 45, 118, 97, 108, 117, 101, 45, 114, 101, 115, 111, 108, 118, 101, 114, 47, 99, 111, 110, 102, 105, 103, 45, 118, 97, 108, 117, 101, 45, 114, 101, 115, 111, 108, 118, 101, 114, 47, 122, 122, 108, 97, 119, 115, 95, 114, 111, 111, 116, 95, 98, 49, 46, 70, 110, 80, 105, 101, 99, 101, 115, 65, 100, 100, 84, 114, 105, 109, 83, 112, 97, 110, 32, 101, 120, 97, 109, 112, 108, 101, 46, 99, 111, 109, 47, 99, 111, 110, 102, 105, 103, 45, 118, 97, 108, 117, 101, 45, 114, 101, 115, 111, 108, 118, 101, 114, 47, 99, 111, 110, 102, 105, 103, 45, 118, 97, 108, 117, 101, 45, 114, 101, 115, 111, 108, 118, 101, 114, 47, 122, 122, 108, 97, 119, 115, 95, 114, 111, 111, 116, 95, 98, 49, 46, 70, 110, 80, 105, 101, 99, 101, 115, 65, 100, 100, 82, 101, 102, 117, 115, 101, 100, 80, 97, 115, 116, 82, 111, 111, 109] : List Nat).map Char.ofNat

theorem initIs : Try.prog.initOrder = String.ofList signs := by kernel_rfl
theorem initSigns : Try.prog.initOrder.toList = signs := by rw [initIs]; exact String.toList_ofList
theorem wordsAre : behindMainWord (wordsSigns signs) = "cut".toList :: (behindMainWord (wordsSigns signs)).tail := by kernel_rfl
theorem headIs : behindMainWord (wordsSigns Try.prog.initOrder.toList) = "cut".toList :: (behindMainWord (wordsSigns signs)).tail := by rw [initSigns]; exact wordsAre

theorem make_of (P : Program) (rest : List (List Char)) (h : behindMainWord (wordsSigns P.initOrder.toList) = "cut".toList :: rest) : P.make = some .cut := by
  unfold Program.make
  rw [h]
  rfl

theorem strip_cut (rest : List (List Char)) : stripLifts liftWords ("cut".toList :: rest) = ([], "cut".toList :: rest) := rfl

theorem headLifts_of (P : Program) (rest : List (List Char)) (h : behindMainWord (wordsSigns P.initOrder.toList) = "cut".toList :: rest) : P.headLifts = [] := by
  unfold Program.headLifts
  rw [h, strip_cut]
  rfl

theorem liftsFinal_of (P : Program) (rest : List (List Char)) (h : behindMainWord (wordsSigns P.initOrder.toList) = "cut".toList :: rest) : P.liftsFinal = false := by
  unfold Program.liftsFinal
  rw [headLifts_of P rest h, h]
  rfl

theorem mayEnter_of (P : Program) (rest : List (List Char)) (h : behindMainWord (wordsSigns P.initOrder.toList) = "cut".toList :: rest)
    (h1 : P.laysLater = false) (h2 : P.bearsReflect = false) (h3 : P.doorFits [] = true) : P.mayEnter = true := by
  unfold Program.mayEnter
  rw [h]
  simp only [strip_cut, h1, h2, h3]
  rfl

theorem laysLater : Try.prog.laysLater = false := by kernel_rfl
theorem bearsReflect : Try.prog.bearsReflect = false := by kernel_rfl
theorem doorFits : Try.prog.doorFits [] = true := by kernel_rfl

theorem makeIs : Try.prog.make = some .cut := make_of _ _ headIs
theorem liftsFinal : Try.prog.liftsFinal = false := liftsFinal_of _ _ headIs
theorem mayEnter : Try.prog.mayEnter = true := mayEnter_of _ _ headIs laysLater bearsReflect doorFits
end Go.Proofs.Qxb6002662a.Closed

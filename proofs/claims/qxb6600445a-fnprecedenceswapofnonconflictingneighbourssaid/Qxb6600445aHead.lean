import Derived.Test.Qxb6600445aRows
import Derived.WalkKit
import Derived.ProofKit
namespace Go.Proofs.Qxb6600445a
open Go.RowKit

theorem and_mk {a b : Bool} (h1 : a = true) (h2 : b = true) : (a && b) = true := by rw [h1, h2]; rfl

/-- The signs of the translation's head, as numbers. -/
def headNums : List Nat := [104, 97, 114, 110, 101, 115, 115, 32, 97, 98, 54, 99, 49, 100, 100, 101, 50, 97, 48, 54, 57, 97, 101, 54, 52, 56, 55, 50, 55, 48,
  97, 52, 48, 99, 56, 50, 50, 98, 57, 57, 57, 53, 101, 56, 51, 54, 98, 99, 51, 100, 52, 97, 100, 99, 57, 102, 48, 100, 102, 50,
  56, 54, 56, 102, 53, 51, 101, 101, 54, 101, 53, 48, 32, 99, 117, 116, 32, 97, 116, 32, 101, 120, 97, 109, 112, 108, 101, 46, 99, 111,
  109, 47, 115, 101, 114, 105, 97, 116, 105, 109, 47, 115, 101, 114, 105, 97, 116, 105, 109, 47, 122, 122, 108, 97, 119, 115, 95, 105, 110, 116,
  101, 114, 110, 97, 108, 95, 115, 99, 104, 101, 100, 117, 108, 101, 95, 98, 49, 46, 70, 110, 82, 101, 99, 111, 118, 101, 114, 121, 77, 97,
  116, 99, 104, 101, 115, 84, 101, 120, 116, 98, 111, 111, 107, 77, 111, 100, 101, 108, 32, 101, 120, 97, 109, 112, 108, 101, 46, 99, 111, 109,
  47, 115, 101, 114, 105, 97, 116, 105, 109, 47, 115, 101, 114, 105, 97, 116, 105, 109, 47, 122, 122, 108, 97, 119, 115, 95, 105, 110, 116, 101,
  114, 110, 97, 108, 95, 115, 99, 104, 101, 100, 117, 108, 101, 95, 98, 49, 46, 70, 110, 82, 101, 99, 111, 118, 101, 114, 121, 83, 116, 114,
  105, 99, 116, 73, 109, 112, 108, 105, 101, 115, 67, 97, 115, 99, 97, 100, 101, 108, 101, 115, 115, 73, 109, 112, 108, 105, 101, 115, 82, 101,
  99, 111, 118, 101, 114, 97, 98, 108, 101, 32, 101, 120, 97, 109, 112, 108, 101, 46, 99, 111, 109, 47, 115, 101, 114, 105, 97, 116, 105, 109,
  47, 115, 101, 114, 105, 97, 116, 105, 109, 47, 122, 122, 108, 97, 119, 115, 95, 105, 110, 116, 101, 114, 110, 97, 108, 95, 115, 99, 104, 101,
  100, 117, 108, 101, 95, 98, 49, 46, 70, 110, 82, 101, 99, 111, 118, 101, 114, 121, 80, 114, 101, 102, 105, 120, 75, 101, 101, 112, 115, 69,
  118, 101, 114, 121, 86, 105, 111, 108, 97, 116, 105, 111, 110, 32, 101, 120, 97, 109, 112, 108, 101, 46, 99, 111, 109, 47, 115, 101, 114, 105,
  97, 116, 105, 109, 47, 115, 101, 114, 105, 97, 116, 105, 109, 47, 122, 122, 108, 97, 119, 115, 95, 105, 110, 116, 101, 114, 110, 97, 108, 95,
  115, 99, 104, 101, 100, 117, 108, 101, 95, 98, 49, 46, 70, 110, 80, 114, 101, 99, 101, 100, 101, 110, 99, 101, 73, 115, 84, 104, 101, 67,
  111, 110, 102, 108, 105, 99, 116, 71, 114, 97, 112, 104, 32, 101, 120, 97, 109, 112, 108, 101, 46, 99, 111, 109, 47, 115, 101, 114, 105, 97,
  116, 105, 109, 47, 115, 101, 114, 105, 97, 116, 105, 109, 47, 122, 122, 108, 97, 119, 115, 95, 105, 110, 116, 101, 114, 110, 97, 108, 95, 115,
  99, 104, 101, 100, 117, 108, 101, 95, 98, 49, 46, 70, 110, 80, 114, 101, 99, 101, 100, 101, 110, 99, 101, 83, 119, 97, 112, 79, 102, 78,
  111, 110, 67, 111, 110, 102, 108, 105, 99, 116, 105, 110, 103, 78, 101, 105, 103, 104, 98, 111, 117, 114, 115, 32, 101, 120, 97, 109, 112, 108,
  101, 46, 99, 111, 109, 47, 115, 101, 114, 105, 97, 116, 105, 109, 47, 115, 101, 114, 105, 97, 116, 105, 109, 47, 122, 122, 108, 97, 119, 115,
  95, 105, 110, 116, 101, 114, 110, 97, 108, 95, 115, 99, 104, 101, 100, 117, 108, 101, 95, 98, 49, 46, 70, 110, 87, 105, 116, 104, 111, 117,
  116, 65, 98, 111, 114, 116, 105, 110, 103, 73, 115, 73, 100, 101, 109, 112, 111, 116, 101, 110, 116]

theorem head_eq : Try.pinned.checked.prog.initOrder = String.ofList (headNums.map Char.ofNat) := by kernel_rfl
theorem head_list : Try.pinned.checked.prog.initOrder.toList = headNums.map Char.ofNat := by rw [head_eq, String.toList_ofList]

theorem make_of (P : Program) (L : List Char) (h : P.initOrder.toList = L) (rest : List (List Char)) (e : behindMainWord (wordsSigns L) = "cut".toList :: rest) : P.make = some .cut := by
  unfold Program.make
  rw [h, e]
  rfl

theorem liftsFinal_of (P : Program) (L : List Char) (h : P.initOrder.toList = L) (rest : List (List Char)) (e : behindMainWord (wordsSigns L) = "cut".toList :: rest) (hs : stripLifts liftWords ("cut".toList :: rest) = ([], "cut".toList :: rest)) : P.liftsFinal = false := by
  unfold Program.liftsFinal Program.headLifts
  rw [h, e, hs]
  rfl

theorem mayEnter_of (P : Program) (L : List Char) (h : P.initOrder.toList = L) (rest : List (List Char)) (e : behindMainWord (wordsSigns L) = "cut".toList :: rest) (hs : stripLifts liftWords ("cut".toList :: rest) = ([], "cut".toList :: rest))
    (h1 : P.laysLater = false) (h2 : P.bearsReflect = false) (h3 : P.doorFits [] = true) : P.mayEnter = true := by
  unfold Program.mayEnter
  rw [h, e]
  show (_ || _ || _) = true
  rw [hs]
  simp only [h1, h2, h3]
  rw [Bool.or_eq_true]
  exact Or.inr rfl

theorem words_eq : behindMainWord (wordsSigns (headNums.map Char.ofNat)) = "cut".toList :: (behindMainWord (wordsSigns (headNums.map Char.ofNat))).tail := by kernel_rfl
theorem strip_eq : stripLifts liftWords ("cut".toList :: (behindMainWord (wordsSigns (headNums.map Char.ofNat))).tail) = ([], "cut".toList :: (behindMainWord (wordsSigns (headNums.map Char.ofNat))).tail) := by kernel_rfl
theorem laysLater_eq : Try.pinned.checked.prog.laysLater = false := by kernel_rfl
theorem bearsReflect_eq : Try.pinned.checked.prog.bearsReflect = false := by kernel_rfl
theorem doorFits_eq : Try.pinned.checked.prog.doorFits [] = true := by kernel_rfl

theorem make_eq : Try.pinned.checked.prog.make = some .cut := make_of _ _ head_list _ words_eq
theorem liftsFinal_eq : Try.pinned.checked.prog.liftsFinal = false := liftsFinal_of _ _ head_list _ words_eq strip_eq
theorem mayEnter_eq : Try.pinned.checked.prog.mayEnter = true := mayEnter_of _ _ head_list _ words_eq strip_eq laysLater_eq bearsReflect_eq doorFits_eq
end Go.Proofs.Qxb6600445a

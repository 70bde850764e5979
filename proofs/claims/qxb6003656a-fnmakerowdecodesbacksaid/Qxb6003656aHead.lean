import Derived.Test.Qxb6003656aRows
import Derived.WalkKit
import Derived.ProofKit
namespace Go.Proofs.Qxb6003656a
open Go.RowKit

theorem and_mk {a b : Bool} (h1 : a = true) (h2 : b = true) : (a && b) = true := by rw [h1, h2]; rfl

/-- The signs of the translation's head, as numbers. -/
def headNums : List Nat := [104, 97, 114, 110, 101, 115, 115, 32, 97, 57, 57, 53, 53, 98, 102, 98, 102, 51, 99, 54, 55, 53, 56, 101, 51, 52, 50, 55, 53, 98,
  48, 102, 101, 101, 102, 55, 100, 97, 97, 102, 97, 50, 55, 100, 56, 99, 48, 51, 100, 101, 55, 101, 53, 52, 100, 50, 51, 51, 56, 52,
  48, 48, 54, 49, 97, 98, 100, 102, 97, 50, 51, 51, 32, 99, 117, 116, 32, 97, 116, 32, 101, 120, 97, 109, 112, 108, 101, 46, 99, 111,
  109, 47, 105, 110, 116, 101, 114, 108, 97, 99, 101, 47, 105, 110, 116, 101, 114, 108, 97, 99, 101, 47, 122, 122, 108, 97, 119, 115, 95, 114,
  111, 111, 116, 95, 98, 49, 46, 70, 110, 83, 101, 114, 105, 97, 108, 79, 114, 100, 101, 114, 76, 105, 115, 116, 115, 70, 105, 110, 105, 115,
  104, 101, 114, 115, 73, 110, 79, 114, 100, 101, 114, 32, 101, 120, 97, 109, 112, 108, 101, 46, 99, 111, 109, 47, 105, 110, 116, 101, 114, 108,
  97, 99, 101, 47, 105, 110, 116, 101, 114, 108, 97, 99, 101, 47, 122, 122, 108, 97, 119, 115, 95, 114, 111, 111, 116, 95, 98, 49, 46, 70,
  110, 67, 108, 111, 110, 101, 67, 97, 108, 108, 115, 68, 101, 101, 112, 67, 111, 112, 121, 65, 116, 65, 110, 121, 67, 117, 116, 32, 101, 120,
  97, 109, 112, 108, 101, 46, 99, 111, 109, 47, 105, 110, 116, 101, 114, 108, 97, 99, 101, 47, 105, 110, 116, 101, 114, 108, 97, 99, 101, 47,
  122, 122, 108, 97, 119, 115, 95, 114, 111, 111, 116, 95, 98, 49, 46, 70, 110, 77, 97, 107, 101, 82, 111, 119, 68, 101, 99, 111, 100, 101,
  115, 66, 97, 99, 107, 32, 101, 120, 97, 109, 112, 108, 101, 46, 99, 111, 109, 47, 105, 110, 116, 101, 114, 108, 97, 99, 101, 47, 105, 110,
  116, 101, 114, 108, 97, 99, 101, 47, 122, 122, 108, 97, 119, 115, 95, 114, 111, 111, 116, 95, 98, 49, 46, 70, 110, 77, 97, 107, 101, 82,
  111, 119, 83, 112, 108, 105, 116, 115, 65, 116, 65, 110, 121, 70, 105, 101, 108, 100]

theorem head_eq : Try.pinned.checked.prog.initOrder = String.ofList (headNums.map Char.ofNat) := by kernel_rfl
theorem head_list : Try.pinned.checked.prog.initOrder.toList = headNums.map Char.ofNat := by rw [head_eq, String.toList_ofList]

theorem make_of (P : Program) (L : List Char) (h : P.initOrder.toList = L) (rest : List (List Char)) (e : behindMainWord (wordsSigns L) = "cut".toList :: rest) : P.make = some .cut := by
  unfold Program.make
  rw [h, e]
  rfl

theorem liftsFinal_of (P : Program) (L : List Char) (h : P.initOrder.toList = L) (rest : List (List Char)) (e : behindMainWord (wordsSigns L) = "cut".toList :: rest) (hs : stripLifts liftWords ("cut".toList :: rest) = ([], "cut".toList :: rest)) : P.liftsFinal = false := by
  unfold Program.liftsFinal Program.headLifts
  rw [h, e, hs]
  rfl

theorem mayEnter_of (P : Program) (L : List Char) (h : P.initOrder.toList = L) (rest : List (List Char)) (e : behindMainWord (wordsSigns L) = "cut".toList :: rest) (hs : stripLifts liftWords ("cut".toList :: rest) = ([], "cut".toList :: rest))
    (h1 : P.laysLater = false) (h2 : P.bearsReflect = false) (h3 : P.doorFits [] = true) : P.mayEnter = true := by
  unfold Program.mayEnter
  rw [h, e]
  show (_ || _ || _) = true
  rw [hs]
  simp only [h1, h2, h3]
  rw [Bool.or_eq_true]
  exact Or.inr rfl

theorem words_eq : behindMainWord (wordsSigns (headNums.map Char.ofNat)) = "cut".toList :: (behindMainWord (wordsSigns (headNums.map Char.ofNat))).tail := by kernel_rfl
theorem strip_eq : stripLifts liftWords ("cut".toList :: (behindMainWord (wordsSigns (headNums.map Char.ofNat))).tail) = ([], "cut".toList :: (behindMainWord (wordsSigns (headNums.map Char.ofNat))).tail) := by kernel_rfl
theorem laysLater_eq : Try.pinned.checked.prog.laysLater = false := by kernel_rfl
theorem bearsReflect_eq : Try.pinned.checked.prog.bearsReflect = false := by kernel_rfl
theorem doorFits_eq : Try.pinned.checked.prog.doorFits [] = true := by kernel_rfl

theorem make_eq : Try.pinned.checked.prog.make = some .cut := make_of _ _ head_list _ words_eq
theorem liftsFinal_eq : Try.pinned.checked.prog.liftsFinal = false := liftsFinal_of _ _ head_list _ words_eq strip_eq
theorem mayEnter_eq : Try.pinned.checked.prog.mayEnter = true := mayEnter_of _ _ head_list _ words_eq strip_eq laysLater_eq bearsReflect_eq doorFits_eq
end Go.Proofs.Qxb6003656a

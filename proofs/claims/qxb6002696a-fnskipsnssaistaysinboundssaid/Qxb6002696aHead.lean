import Derived.Test.Qxb6002696aRows
import Derived.WalkKit
import Derived.ProofKit
namespace Go.Proofs.Qxb6002696a
open Go.RowKit

theorem and_mk {a b : Bool} (h1 : a = true) (h2 : b = true) : (a && b) = true := by rw [h1, h2]; rfl

/-- The signs of the translation's head, as numbers. -/
def headNums : List Nat := [104, 97, 114, 110, 101, 115, 115, 32, 50, 97, 55, 53, 98, 101, 53, 101, 49, 48, 49, 100, 97, 99, 101, 98, 52, 57, 49, 101, 55, 52,
  55, 54, 48, 55, 97, 99, 56, 49, 102, 49, 51, 97, 57, 55, 56, 49, 55, 56, 55, 102, 97, 56, 50, 49, 101, 98, 98, 101, 53, 98,
  48, 101, 48, 57, 48, 55, 55, 100, 54, 51, 102, 102, 32, 99, 117, 116, 32, 97, 116, 32, 101, 120, 97, 109, 112, 108, 101, 46, 99, 111,
  109, 47, 104, 117, 115, 104, 108, 105, 110, 101, 47, 104, 117, 115, 104, 108, 105, 110, 101, 47, 122, 122, 108, 97, 119, 115, 95, 105, 110, 116,
  101, 114, 110, 97, 108, 95, 99, 97, 112, 116, 117, 114, 101, 95, 98, 49, 46, 70, 110, 84, 115, 110, 76, 111, 103, 83, 101, 101, 110, 73,
  115, 69, 97, 114, 108, 105, 101, 114, 79, 99, 99, 117, 114, 114, 101, 110, 99, 101, 32, 101, 120, 97, 109, 112, 108, 101, 46, 99, 111, 109,
  47, 104, 117, 115, 104, 108, 105, 110, 101, 47, 104, 117, 115, 104, 108, 105, 110, 101, 47, 122, 122, 108, 97, 119, 115, 95, 105, 110, 116, 101,
  114, 110, 97, 108, 95, 99, 97, 112, 116, 117, 114, 101, 95, 98, 49, 46, 70, 110, 84, 115, 110, 76, 111, 103, 82, 101, 109, 101, 109, 98,
  101, 114, 115, 69, 118, 101, 114, 121, 83, 101, 101, 110, 65, 110, 100, 78, 111, 79, 116, 104, 101, 114, 32, 101, 120, 97, 109, 112, 108, 101,
  46, 99, 111, 109, 47, 104, 117, 115, 104, 108, 105, 110, 101, 47, 104, 117, 115, 104, 108, 105, 110, 101, 47, 122, 122, 108, 97, 119, 115, 95,
  105, 110, 116, 101, 114, 110, 97, 108, 95, 99, 97, 112, 116, 117, 114, 101, 95, 98, 49, 46, 70, 110, 83, 107, 105, 112, 69, 120, 116, 101,
  110, 115, 105, 111, 110, 115, 69, 110, 100, 115, 65, 116, 73, 116, 115, 69, 110, 99, 111, 100, 105, 110, 103, 32, 101, 120, 97, 109, 112, 108,
  101, 46, 99, 111, 109, 47, 104, 117, 115, 104, 108, 105, 110, 101, 47, 104, 117, 115, 104, 108, 105, 110, 101, 47, 122, 122, 108, 97, 119, 115,
  95, 105, 110, 116, 101, 114, 110, 97, 108, 95, 99, 97, 112, 116, 117, 114, 101, 95, 98, 49, 46, 70, 110, 83, 107, 105, 112, 69, 120, 116,
  101, 110, 115, 105, 111, 110, 115, 82, 101, 102, 117, 115, 101, 115, 65, 67, 117, 116, 69, 110, 99, 111, 100, 105, 110, 103, 32, 101, 120, 97,
  109, 112, 108, 101, 46, 99, 111, 109, 47, 104, 117, 115, 104, 108, 105, 110, 101, 47, 104, 117, 115, 104, 108, 105, 110, 101, 47, 122, 122, 108,
  97, 119, 115, 95, 105, 110, 116, 101, 114, 110, 97, 108, 95, 99, 97, 112, 116, 117, 114, 101, 95, 98, 49, 46, 70, 110, 83, 107, 105, 112,
  69, 120, 116, 101, 110, 115, 105, 111, 110, 115, 83, 116, 97, 121, 115, 73, 110, 66, 111, 117, 110, 100, 115, 32, 101, 120, 97, 109, 112, 108,
  101, 46, 99, 111, 109, 47, 104, 117, 115, 104, 108, 105, 110, 101, 47, 104, 117, 115, 104, 108, 105, 110, 101, 47, 122, 122, 108, 97, 119, 115,
  95, 105, 110, 116, 101, 114, 110, 97, 108, 95, 99, 97, 112, 116, 117, 114, 101, 95, 98, 49, 46, 70, 110, 83, 107, 105, 112, 83, 78, 83,
  83, 65, 73, 69, 110, 100, 115, 65, 116, 73, 116, 115, 69, 110, 99, 111, 100, 105, 110, 103, 32, 101, 120, 97, 109, 112, 108, 101, 46, 99,
  111, 109, 47, 104, 117, 115, 104, 108, 105, 110, 101, 47, 104, 117, 115, 104, 108, 105, 110, 101, 47, 122, 122, 108, 97, 119, 115, 95, 105, 110,
  116, 101, 114, 110, 97, 108, 95, 99, 97, 112, 116, 117, 114, 101, 95, 98, 49, 46, 70, 110, 83, 107, 105, 112, 83, 78, 83, 83, 65, 73,
  82, 101, 102, 117, 115, 101, 115, 65, 67, 117, 116, 69, 110, 99, 111, 100, 105, 110, 103, 32, 101, 120, 97, 109, 112, 108, 101, 46, 99, 111,
  109, 47, 104, 117, 115, 104, 108, 105, 110, 101, 47, 104, 117, 115, 104, 108, 105, 110, 101, 47, 122, 122, 108, 97, 119, 115, 95, 105, 110, 116,
  101, 114, 110, 97, 108, 95, 99, 97, 112, 116, 117, 114, 101, 95, 98, 49, 46, 70, 110, 83, 107, 105, 112, 83, 78, 83, 83, 65, 73, 83,
  116, 97, 121, 115, 73, 110, 66, 111, 117, 110, 100, 115]

theorem head_eq : Try.pinned.checked.prog.initOrder = String.ofList (headNums.map Char.ofNat) := by kernel_rfl
theorem head_list : Try.pinned.checked.prog.initOrder.toList = headNums.map Char.ofNat := by rw [head_eq, String.toList_ofList]

theorem make_of (P : Program) (L : List Char) (h : P.initOrder.toList = L) (rest : List (List Char)) (e : behindMainWord (wordsSigns L) = "cut".toList :: rest) : P.make = some .cut := by
  unfold Program.make
  rw [h, e]
  rfl

theorem liftsFinal_of (P : Program) (L : List Char) (h : P.initOrder.toList = L) (rest : List (List Char)) (e : behindMainWord (wordsSigns L) = "cut".toList :: rest) (hs : stripLifts liftWords ("cut".toList :: rest) = ([], "cut".toList :: rest)) : P.liftsFinal = false := by
  unfold Program.liftsFinal Program.headLifts
  rw [h, e, hs]
  rfl

theorem mayEnter_of (P : Program) (L : List Char) (h : P.initOrder.toList = L) (rest : List (List Char)) (e : behindMainWord (wordsSigns L) = "cut".toList :: rest) (hs : stripLifts liftWords ("cut".toList :: rest) = ([], "cut".toList :: rest))
    (h1 : P.laysLater = false) (h2 : P.bearsReflect = false) (h3 : P.doorFits [] = true) : P.mayEnter = true := by
  unfold Program.mayEnter
  rw [h, e]
  show (_ || _ || _) = true
  rw [hs]
  simp only [h1, h2, h3]
  rw [Bool.or_eq_true]
  exact Or.inr rfl

theorem words_eq : behindMainWord (wordsSigns (headNums.map Char.ofNat)) = "cut".toList :: (behindMainWord (wordsSigns (headNums.map Char.ofNat))).tail := by kernel_rfl
theorem strip_eq : stripLifts liftWords ("cut".toList :: (behindMainWord (wordsSigns (headNums.map Char.ofNat))).tail) = ([], "cut".toList :: (behindMainWord (wordsSigns (headNums.map Char.ofNat))).tail) := by kernel_rfl
theorem laysLater_eq : Try.pinned.checked.prog.laysLater = false := by kernel_rfl
theorem bearsReflect_eq : Try.pinned.checked.prog.bearsReflect = false := by kernel_rfl
theorem doorFits_eq : Try.pinned.checked.prog.doorFits [] = true := by kernel_rfl

theorem make_eq : Try.pinned.checked.prog.make = some .cut := make_of _ _ head_list _ words_eq
theorem liftsFinal_eq : Try.pinned.checked.prog.liftsFinal = false := liftsFinal_of _ _ head_list _ words_eq strip_eq
theorem mayEnter_eq : Try.pinned.checked.prog.mayEnter = true := mayEnter_of _ _ head_list _ words_eq strip_eq laysLater_eq bearsReflect_eq doorFits_eq
end Go.Proofs.Qxb6002696a

import Derived.Test.Qxb6601082aRows
import Derived.WalkKit
import Derived.ProofKit
namespace Go.Proofs.Qxb6601082a
open Go.RowKit

theorem and_mk {a b : Bool} (h1 : a = true) (h2 : b = true) : (a && b) = true := by rw [h1, h2]; rfl

/-- The signs of the translation's head, as numbers. -/
def headNums : List Nat := [104, 97, 114, 110, 101, 115, 115, 32, 98, 53, 101, 101, 97, 102, 54, 52, 48, 99, 99, 97, 52, 98, 101, 51, 53, 57, 55, 51, 50, 49,
  56, 100, 49, 51, 49, 99, 54, 49, 54, 55, 102, 49, 51, 53, 57, 53, 53, 52, 53, 99, 99, 52, 51, 97, 99, 57, 56, 48, 50, 101,
  51, 101, 48, 50, 102, 102, 98, 102, 100, 99, 102, 50, 32, 99, 117, 116, 32, 97, 116, 32, 101, 120, 97, 109, 112, 108, 101, 46, 99, 111,
  109, 47, 115, 108, 117, 105, 99, 101, 103, 97, 116, 101, 47, 115, 108, 117, 105, 99, 101, 103, 97, 116, 101, 47, 122, 122, 108, 97, 119, 115,
  95, 105, 110, 116, 101, 114, 110, 97, 108, 95, 99, 111, 110, 102, 105, 103, 95, 98, 49, 46, 70, 110, 66, 101, 121, 111, 110, 100, 69, 120,
  97, 99, 116, 86, 97, 108, 117, 101, 32, 101, 120, 97, 109, 112, 108, 101, 46, 99, 111, 109, 47, 115, 108, 117, 105, 99, 101, 103, 97, 116,
  101, 47, 115, 108, 117, 105, 99, 101, 103, 97, 116, 101, 47, 122, 122, 108, 97, 119, 115, 95, 105, 110, 116, 101, 114, 110, 97, 108, 95, 99,
  111, 110, 102, 105, 103, 95, 98, 49, 46, 70, 110, 66, 101, 121, 111, 110, 100, 87, 105, 100, 101, 114, 66, 111, 117, 110, 100, 115, 70, 108,
  97, 103, 76, 101, 115, 115, 32, 101, 120, 97, 109, 112, 108, 101, 46, 99, 111, 109, 47, 115, 108, 117, 105, 99, 101, 103, 97, 116, 101, 47,
  115, 108, 117, 105, 99, 101, 103, 97, 116, 101, 47, 122, 122, 108, 97, 119, 115, 95, 105, 110, 116, 101, 114, 110, 97, 108, 95, 99, 111, 110,
  102, 105, 103, 95, 98, 49, 46, 70, 110, 72, 111, 108, 100, 115, 69, 120, 97, 99, 116, 86, 97, 108, 117, 101, 32, 101, 120, 97, 109, 112,
  108, 101, 46, 99, 111, 109, 47, 115, 108, 117, 105, 99, 101, 103, 97, 116, 101, 47, 115, 108, 117, 105, 99, 101, 103, 97, 116, 101, 47, 122,
  122, 108, 97, 119, 115, 95, 105, 110, 116, 101, 114, 110, 97, 108, 95, 99, 111, 110, 102, 105, 103, 95, 98, 49, 46, 70, 110, 72, 111, 108,
  100, 115, 87, 105, 100, 101, 114, 66, 111, 117, 110, 100, 115, 72, 111, 108, 100, 77, 111, 114, 101, 32, 101, 120, 97, 109, 112, 108, 101, 46,
  99, 111, 109, 47, 115, 108, 117, 105, 99, 101, 103, 97, 116, 101, 47, 115, 108, 117, 105, 99, 101, 103, 97, 116, 101, 47, 122, 122, 108, 97,
  119, 115, 95, 105, 110, 116, 101, 114, 110, 97, 108, 95, 99, 111, 110, 102, 105, 103, 95, 98, 49, 46, 70, 110, 72, 111, 108, 100, 115, 65,
  103, 114, 101, 101, 115, 87, 105, 116, 104, 66, 101, 121, 111, 110, 100, 32, 101, 120, 97, 109, 112, 108, 101, 46, 99, 111, 109, 47, 115, 108,
  117, 105, 99, 101, 103, 97, 116, 101, 47, 115, 108, 117, 105, 99, 101, 103, 97, 116, 101, 47, 122, 122, 108, 97, 119, 115, 95, 105, 110, 116,
  101, 114, 110, 97, 108, 95, 99, 111, 110, 102, 105, 103, 95, 98, 49, 46, 70, 110, 87, 105, 116, 104, 105, 110, 79, 110, 101, 69, 100, 105,
  116, 69, 120, 97, 99, 116, 32, 101, 120, 97, 109, 112, 108, 101, 46, 99, 111, 109, 47, 115, 108, 117, 105, 99, 101, 103, 97, 116, 101, 47,
  115, 108, 117, 105, 99, 101, 103, 97, 116, 101, 47, 122, 122, 108, 97, 119, 115, 95, 105, 110, 116, 101, 114, 110, 97, 108, 95, 99, 111, 110,
  102, 105, 103, 95, 98, 49, 46, 70, 110, 87, 105, 116, 104, 105, 110, 79, 110, 101, 69, 100, 105, 116, 83, 121, 109, 109, 101, 116, 114, 105,
  99, 32, 101, 120, 97, 109, 112, 108, 101, 46, 99, 111, 109, 47, 115, 108, 117, 105, 99, 101, 103, 97, 116, 101, 47, 115, 108, 117, 105, 99,
  101, 103, 97, 116, 101, 47, 122, 122, 108, 97, 119, 115, 95, 105, 110, 116, 101, 114, 110, 97, 108, 95, 99, 111, 110, 102, 105, 103, 95, 98,
  49, 46, 70, 110, 87, 105, 116, 104, 105, 110, 79, 110, 101, 69, 100, 105, 116, 65, 99, 99, 101, 112, 116, 115, 69, 118, 101, 114, 121, 83,
  105, 110, 103, 108, 101, 69, 100, 105, 116]

theorem head_eq : Try.pinned.checked.prog.initOrder = String.ofList (headNums.map Char.ofNat) := by kernel_rfl
theorem head_list : Try.pinned.checked.prog.initOrder.toList = headNums.map Char.ofNat := by rw [head_eq, String.toList_ofList]

theorem make_of (P : Program) (L : List Char) (h : P.initOrder.toList = L) (rest : List (List Char)) (e : behindMainWord (wordsSigns L) = "cut".toList :: rest) : P.make = some .cut := by
  unfold Program.make
  rw [h, e]
  rfl

theorem liftsFinal_of (P : Program) (L : List Char) (h : P.initOrder.toList = L) (rest : List (List Char)) (e : behindMainWord (wordsSigns L) = "cut".toList :: rest) (hs : stripLifts liftWords ("cut".toList :: rest) = ([], "cut".toList :: rest)) : P.liftsFinal = false := by
  unfold Program.liftsFinal Program.headLifts
  rw [h, e, hs]
  rfl

theorem mayEnter_of (P : Program) (L : List Char) (h : P.initOrder.toList = L) (rest : List (List Char)) (e : behindMainWord (wordsSigns L) = "cut".toList :: rest) (hs : stripLifts liftWords ("cut".toList :: rest) = ([], "cut".toList :: rest))
    (h1 : P.laysLater = false) (h2 : P.bearsReflect = false) (h3 : P.doorFits [] = true) : P.mayEnter = true := by
  unfold Program.mayEnter
  rw [h, e]
  show (_ || _ || _) = true
  rw [hs]
  simp only [h1, h2, h3]
  rw [Bool.or_eq_true]
  exact Or.inr rfl

theorem words_eq : behindMainWord (wordsSigns (headNums.map Char.ofNat)) = "cut".toList :: (behindMainWord (wordsSigns (headNums.map Char.ofNat))).tail := by kernel_rfl
theorem strip_eq : stripLifts liftWords ("cut".toList :: (behindMainWord (wordsSigns (headNums.map Char.ofNat))).tail) = ([], "cut".toList :: (behindMainWord (wordsSigns (headNums.map Char.ofNat))).tail) := by kernel_rfl
theorem laysLater_eq : Try.pinned.checked.prog.laysLater = false := by kernel_rfl
theorem bearsReflect_eq : Try.pinned.checked.prog.bearsReflect = false := by kernel_rfl
theorem doorFits_eq : Try.pinned.checked.prog.doorFits [] = true := by kernel_rfl

theorem make_eq : Try.pinned.checked.prog.make = some .cut := make_of _ _ head_list _ words_eq
theorem liftsFinal_eq : Try.pinned.checked.prog.liftsFinal = false := liftsFinal_of _ _ head_list _ words_eq strip_eq
theorem mayEnter_eq : Try.pinned.checked.prog.mayEnter = true := mayEnter_of _ _ head_list _ words_eq strip_eq laysLater_eq bearsReflect_eq doorFits_eq
end Go.Proofs.Qxb6601082a

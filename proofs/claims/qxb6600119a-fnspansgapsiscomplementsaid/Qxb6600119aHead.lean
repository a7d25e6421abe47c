/-
  SEAT b6600119a: three closed facts on the head's words, off the head's text (evaluated at once they outgrow the lid).
-/
import Derived.Test.Qxb6600119aRows
import Derived.WalkKit
import Derived.ProofKit
import Derived.OpenShut
namespace Go.Proofs.Qxb6600119a
open Go
def hw0 : List Char := ['h', 'a', 'r', 'n', 'e', 's', 's']
def hw1 : List Char := ['a', 'a', '9', '3', '1', '7', 'c', '6', 'c', '6', '2', 'f', '2', '7', '4', '2', 'c', '7', 'd', '9', '9', 'a', 'e', '0', '8', '8', '2', '4', '5', 'c', '7', '0', 'f', 'f', 'c', '7', '0', 'c', '9', '3', '0', 'b', '3', 'c', 'a', '1', '5', 'a', 'e', '2', '8', 'f', '6', '2', 'b', 'b', 'e', 'd', 'e', 'b', 'b', '0', 'c', 'd']
def hw2 : List Char := ['c', 'u', 't']
def hw3 : List Char := ['a', 't']
def hw4 : List Char := ['e', 'x', 'a', 'm', 'p', 'l', 'e', '.', 'c', 'o', 'm', '/', 'h', 'u', 's', 'h', 'g', 'r', 'a', 'm', '/', 'h', 'u', 's', 'h', 'g', 'r', 'a', 'm', '/', 'z', 'z', 'l', 'a', 'w', 's', '_', 'i', 'n', 't', 'e', 'r', 'n', 'a', 'l', '_', 'h', 'a', 'n', 'd', 's', 'h', 'a', 'k', 'e', '_', 'b', '1', '.', 'F', 'n', 'C', 'e', 'r', 't', 'i', 'f', 'i', 'c', 'a', 't', 'e', 'M', 'a', 'r', 's', 'h', 'a', 'l', 'P', 'a', 'r', 's', 'e', 's', 'B', 'a', 'c', 'k']
def hw5 : List Char := ['e', 'x', 'a', 'm', 'p', 'l', 'e', '.', 'c', 'o', 'm', '/', 'h', 'u', 's', 'h', 'g', 'r', 'a', 'm', '/', 'h', 'u', 's', 'h', 'g', 'r', 'a', 'm', '/', 'z', 'z', 'l', 'a', 'w', 's', '_', 'i', 'n', 't', 'e', 'r', 'n', 'a', 'l', '_', 'h', 'a', 'n', 'd', 's', 'h', 'a', 'k', 'e', '_', 'b', '1', '.', 'F', 'n', 'C', 'e', 'r', 't', 'i', 'f', 'i', 'c', 'a', 't', 'e', 'M', 'a', 'r', 's', 'h', 'a', 'l', 'C', 'h', 'a', 'i', 'n', 'C', 'o', 'n', 'c', 'a', 't']
def hw6 : List Char := ['e', 'x', 'a', 'm', 'p', 'l', 'e', '.', 'c', 'o', 'm', '/', 'h', 'u', 's', 'h', 'g', 'r', 'a', 'm', '/', 'h', 'u', 's', 'h', 'g', 'r', 'a', 'm', '/', 'z', 'z', 'l', 'a', 'w', 's', '_', 'i', 'n', 't', 'e', 'r', 'n', 'a', 'l', '_', 'h', 'a', 'n', 'd', 's', 'h', 'a', 'k', 'e', '_', 'b', '1', '.', 'F', 'n', 'S', 'p', 'a', 'n', 's', 'A', 'd', 'd', 'K', 'e', 'e', 'p', 's', 'C', 'a', 'n', 'o', 'n', 'i', 'c', 'a', 'l', 'E', 'x', 'a', 'c', 't', 'U', 'n', 'i', 'o', 'n']
def hw7 : List Char := ['e', 'x', 'a', 'm', 'p', 'l', 'e', '.', 'c', 'o', 'm', '/', 'h', 'u', 's', 'h', 'g', 'r', 'a', 'm', '/', 'h', 'u', 's', 'h', 'g', 'r', 'a', 'm', '/', 'z', 'z', 'l', 'a', 'w', 's', '_', 'i', 'n', 't', 'e', 'r', 'n', 'a', 'l', '_', 'h', 'a', 'n', 'd', 's', 'h', 'a', 'k', 'e', '_', 'b', '1', '.', 'F', 'n', 'S', 'p', 'a', 'n', 's', 'A', 'd', 'd', 'O', 'r', 'd', 'e', 'r', 'F', 'r', 'e', 'e']
def hw8 : List Char := ['e', 'x', 'a', 'm', 'p', 'l', 'e', '.', 'c', 'o', 'm', '/', 'h', 'u', 's', 'h', 'g', 'r', 'a', 'm', '/', 'h', 'u', 's', 'h', 'g', 'r', 'a', 'm', '/', 'z', 'z', 'l', 'a', 'w', 's', '_', 'i', 'n', 't', 'e', 'r', 'n', 'a', 'l', '_', 'h', 'a', 'n', 'd', 's', 'h', 'a', 'k', 'e', '_', 'b', '1', '.', 'F', 'n', 'S', 'p', 'a', 'n', 's', 'A', 'd', 'd', 'I', 'd', 'e', 'm', 'p', 'o', 't', 'e', 'n', 't']
def hw9 : List Char := ['e', 'x', 'a', 'm', 'p', 'l', 'e', '.', 'c', 'o', 'm', '/', 'h', 'u', 's', 'h', 'g', 'r', 'a', 'm', '/', 'h', 'u', 's', 'h', 'g', 'r', 'a', 'm', '/', 'z', 'z', 'l', 'a', 'w', 's', '_', 'i', 'n', 't', 'e', 'r', 'n', 'a', 'l', '_', 'h', 'a', 'n', 'd', 's', 'h', 'a', 'k', 'e', '_', 'b', '1', '.', 'F', 'n', 'S', 'p', 'a', 'n', 's', 'G', 'a', 'p', 's', 'I', 's', 'C', 'o', 'm', 'p', 'l', 'e', 'm', 'e', 'n', 't']
def hw10 : List Char := ['e', 'x', 'a', 'm', 'p', 'l', 'e', '.', 'c', 'o', 'm', '/', 'h', 'u', 's', 'h', 'g', 'r', 'a', 'm', '/', 'h', 'u', 's', 'h', 'g', 'r', 'a', 'm', '/', 'z', 'z', 'l', 'a', 'w', 's', '_', 'i', 'n', 't', 'e', 'r', 'n', 'a', 'l', '_', 'h', 'a', 'n', 'd', 's', 'h', 'a', 'k', 'e', '_', 'b', '1', '.', 'F', 'n', 'S', 'p', 'a', 'n', 's', 'G', 'a', 'p', 's', 'T', 'w', 'i', 'c', 'e', 'I', 's', 'C', 'l', 'i', 'p']
def hw11 : List Char := ['e', 'x', 'a', 'm', 'p', 'l', 'e', '.', 'c', 'o', 'm', '/', 'h', 'u', 's', 'h', 'g', 'r', 'a', 'm', '/', 'h', 'u', 's', 'h', 'g', 'r', 'a', 'm', '/', 'z', 'z', 'l', 'a', 'w', 's', '_', 'i', 'n', 't', 'e', 'r', 'n', 'a', 'l', '_', 'h', 'a', 'n', 'd', 's', 'h', 'a', 'k', 'e', '_', 'b', '1', '.', 'F', 'n', 'S', 'p', 'a', 'n', 's', 'G', 'a', 'p', 's', 'T', 'i', 'l', 'e', 'W', 'i', 't', 'h', 'C', 'l', 'i', 'p']
/-- The head's word on how the program was cut, sign by sign. -/
def headChars : List Char := hw0 ++ ' ' :: (hw1 ++ ' ' :: (hw2 ++ ' ' :: (hw3 ++ ' ' :: (hw4 ++ ' ' :: (hw5 ++ ' ' :: (hw6 ++ ' ' :: (hw7 ++ ' ' :: (hw8 ++ ' ' :: (hw9 ++ ' ' :: (hw10 ++ ' ' :: (hw11)))))))))))
theorem head_eq : Try.checked.prog.initOrder = String.ofList headChars := by kernel_rfl
theorem head_list : Try.checked.prog.initOrder.toList = headChars := by rw [head_eq]; exact String.toList_ofList
theorem head_words : wordsSigns headChars = [hw0, hw1, hw2, hw3, hw4, hw5, hw6, hw7, hw8, hw9, hw10, hw11] := by kernel_rfl
theorem fact_words : behindMainWord (wordsSigns Try.checked.prog.initOrder.toList) = [hw2, hw3, hw4, hw5, hw6, hw7, hw8, hw9, hw10, hw11] := by rw [head_list, head_words]; kernel_rfl
theorem strip_cut (rest : List (List Char)) : stripLifts liftWords (hw2 :: rest) = ([], hw2 :: rest) := by kernel_rfl
theorem enter_of {P : Program} {rest : List (List Char)} (h : behindMainWord (wordsSigns P.initOrder.toList) = hw2 :: rest) (h1 : P.laysLater = false) (h2 : P.bearsReflect = false) (h3 : P.doorFits [] = true) : P.mayEnter = true := by
  unfold Program.mayEnter
  rw [h]
  simp only [strip_cut, h1, h2, h3]
  have e1 : (hw2 == "cut".toList) = true := by decide
  simp [show hw2 = "cut".toList by decide]
theorem lifts_of {P : Program} {rest : List (List Char)} (h : behindMainWord (wordsSigns P.initOrder.toList) = hw2 :: rest) : P.headLifts = [] := by
  unfold Program.headLifts
  rw [h]
  simp only [strip_cut, ite_self]
theorem final_of {P : Program} {rest : List (List Char)} (h : behindMainWord (wordsSigns P.initOrder.toList) = hw2 :: rest) : P.liftsFinal = false := by
  unfold Program.liftsFinal
  rw [lifts_of h, h]
  simp [show hw2 = "cut".toList by decide]
theorem make_of {P : Program} {rest : List (List Char)} (h : behindMainWord (wordsSigns P.initOrder.toList) = hw2 :: rest) : P.make = some .cut := by
  unfold Program.make
  rw [h]
  simp [show hw2 = "cut".toList by decide]
theorem both {a b : Bool} (h1 : a = true) (h2 : b = true) : (a && b) = true := by rw [h1, h2]; rfl
theorem fact_enter : Try.checked.prog.mayEnter = true := enter_of fact_words (by kernel_rfl) (by kernel_rfl) (by kernel_rfl)
theorem fact_lifts : Try.checked.prog.liftsFinal = false := final_of fact_words
theorem fact_make : Try.checked.prog.make = some .cut := make_of fact_words
end Go.Proofs.Qxb6600119a

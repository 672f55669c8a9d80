import Derived.Test.Qxb6601225aRows
import Derived.ProofKit
/-
  THREE CLOSED FACTS on the whole program (mayEnter, liftsFinal, make). Each goes over the signs of the cut's head: left to the kernel as it stands each wants some 9 GB; here the head is written out once as a list of signs, and the rest is said of any program whose head begins so.
-/
namespace Go.Proofs.Qxb6601225a.Closed

set_option maxRecDepth 100000 in
/-- The signs of the cut's head. -/
def signs : List Char := [
  Char.ofNat 104, Char.ofNat 97, Char.ofNat 114, Char.ofNat 110, Char.ofNat 101, Char.ofNat 115, Char.ofNat 115, Char.ofNat 32, Char.ofNat 52, Char.ofNat 97, Char.ofNat 49, Char.ofNat 99, Char.ofNat 100, Char.ofNat 55, Char.ofNat 51, Char.ofNat 51,
  Char.ofNat 48, Char.ofNat 97, Char.ofNat 49, Char.ofNat 102, Char.ofNat 53, Char.ofNat 98, Char.ofNat 49, Char.ofNat 54, Char.ofNat 51, Char.ofNat 52, Char.ofNat 48, Char.ofNat 52, Char.ofNat 49, Char.ofNat 48, Char.ofNat 101, Char.ofNat 54,
  Char.ofNat 102, Char.ofNat 54, Char.ofNat 100, Char.ofNat 57, Char.ofNat 50, Char.ofNat 54, Char.ofNat 48, Char.ofNat 102, Char.ofNat 100, Char.ofNat 55, Char.ofNat 98, Char.ofNat 102, Char.ofNat 53, Char.ofNat 51, Char.ofNat 48, Char.ofNat 50,
  Char.ofNat 56, Char.ofNat 50, Char.ofNat 51, Char.ofNat 54, Char.ofNat 100, Char.ofNat 51, Char.ofNat 102, Char.ofNat 51, Char.ofNat 57, Char.ofNat 100, Char.ofNat 100, Char.ofNat 49, Char.ofNat 102, Char.ofNat 56, Char.ofNat 97, Char.ofNat 55,
  Char.ofNat 99, Char.ofNat 54, Char.ofNat 49, Char.ofNat 56, Char.ofNat 53, Char.ofNat 56, Char.ofNat 55, Char.ofNat 99, Char.ofNat 32, Char.ofNat 99, Char.ofNat 117, Char.ofNat 116, Char.ofNat 32, Char.ofNat 97, Char.ofNat 116, Char.ofNat 32,
  Char.ofNat 101, Char.ofNat 120, Char.ofNat 97, Char.ofNat 109, Char.ofNat 112, Char.ofNat 108, Char.ofNat 101, Char.ofNat 46, Char.ofNat 99, Char.ofNat 111, Char.ofNat 109, Char.ofNat 47, Char.ofNat 100, Char.ofNat 117, Char.ofNat 114, Char.ofNat 97,
  Char.ofNat 98, Char.ofNat 108, Char.ofNat 101, Char.ofNat 45, Char.ofNat 108, Char.ofNat 111, Char.ofNat 111, Char.ofNat 112, Char.ofNat 47, Char.ofNat 100, Char.ofNat 117, Char.ofNat 114, Char.ofNat 97, Char.ofNat 98, Char.ofNat 108, Char.ofNat 101,
  Char.ofNat 45, Char.ofNat 108, Char.ofNat 111, Char.ofNat 111, Char.ofNat 112, Char.ofNat 47, Char.ofNat 122, Char.ofNat 122, Char.ofNat 108, Char.ofNat 97, Char.ofNat 119, Char.ofNat 115, Char.ofNat 95, Char.ofNat 112, Char.ofNat 111, Char.ofNat 108,
  Char.ofNat 105, Char.ofNat 99, Char.ofNat 121, Char.ofNat 95, Char.ofNat 98, Char.ofNat 49, Char.ofNat 46, Char.ofNat 70, Char.ofNat 110, Char.ofNat 80, Char.ofNat 97, Char.ofNat 114, Char.ofNat 97, Char.ofNat 109, Char.ofNat 101, Char.ofNat 116,
  Char.ofNat 101, Char.ofNat 114, Char.ofNat 69, Char.ofNat 110, Char.ofNat 100, Char.ofNat 68, Char.ofNat 101, Char.ofNat 112, Char.ofNat 101, Char.ofNat 110, Char.ofNat 100, Char.ofNat 115, Char.ofNat 79, Char.ofNat 110, Char.ofNat 108, Char.ofNat 121,
  Char.ofNat 79, Char.ofNat 110, Char.ofNat 84, Char.ofNat 101, Char.ofNat 120, Char.ofNat 116, Char.ofNat 85, Char.ofNat 112, Char.ofNat 84, Char.ofNat 111, Char.ofNat 73, Char.ofNat 116, Char.ofNat 32, Char.ofNat 101, Char.ofNat 120, Char.ofNat 97,
  Char.ofNat 109, Char.ofNat 112, Char.ofNat 108, Char.ofNat 101, Char.ofNat 46, Char.ofNat 99, Char.ofNat 111, Char.ofNat 109, Char.ofNat 47, Char.ofNat 100, Char.ofNat 117, Char.ofNat 114, Char.ofNat 97, Char.ofNat 98, Char.ofNat 108, Char.ofNat 101,
  Char.ofNat 45, Char.ofNat 108, Char.ofNat 111, Char.ofNat 111, Char.ofNat 112, Char.ofNat 47, Char.ofNat 100, Char.ofNat 117, Char.ofNat 114, Char.ofNat 97, Char.ofNat 98, Char.ofNat 108, Char.ofNat 101, Char.ofNat 45, Char.ofNat 108, Char.ofNat 111,
  Char.ofNat 111, Char.ofNat 112, Char.ofNat 47, Char.ofNat 122, Char.ofNat 122, Char.ofNat 108, Char.ofNat 97, Char.ofNat 119, Char.ofNat 115, Char.ofNat 95, Char.ofNat 112, Char.ofNat 111, Char.ofNat 108, Char.ofNat 105, Char.ofNat 99, Char.ofNat 121,
  Char.ofNat 95, Char.ofNat 98, Char.ofNat 49, Char.ofNat 46, Char.ofNat 70, Char.ofNat 110, Char.ofNat 80, Char.ofNat 97, Char.ofNat 114, Char.ofNat 97, Char.ofNat 109, Char.ofNat 101, Char.ofNat 116, Char.ofNat 101, Char.ofNat 114, Char.ofNat 69,
  Char.ofNat 110, Char.ofNat 100, Char.ofNat 79, Char.ofNat 112, Char.ofNat 101, Char.ofNat 110, Char.ofNat 66, Char.ofNat 114, Char.ofNat 97, Char.ofNat 99, Char.ofNat 101, Char.ofNat 68, Char.ofNat 101, Char.ofNat 102, Char.ofNat 101, Char.ofNat 114,
  Char.ofNat 115, Char.ofNat 69, Char.ofNat 110, Char.ofNat 100, Char.ofNat 32, Char.ofNat 101, Char.ofNat 120, Char.ofNat 97, Char.ofNat 109, Char.ofNat 112, Char.ofNat 108, Char.ofNat 101, Char.ofNat 46, Char.ofNat 99, Char.ofNat 111, Char.ofNat 109,
  Char.ofNat 47, Char.ofNat 100, Char.ofNat 117, Char.ofNat 114, Char.ofNat 97, Char.ofNat 98, Char.ofNat 108, Char.ofNat 101, Char.ofNat 45, Char.ofNat 108, Char.ofNat 111, Char.ofNat 111, Char.ofNat 112, Char.ofNat 47, Char.ofNat 100, Char.ofNat 117,
  Char.ofNat 114, Char.ofNat 97, Char.ofNat 98, Char.ofNat 108, Char.ofNat 101, Char.ofNat 45, Char.ofNat 108, Char.ofNat 111, Char.ofNat 111, Char.ofNat 112, Char.ofNat 47, Char.ofNat 122, Char.ofNat 122, Char.ofNat 108, Char.ofNat 97, Char.ofNat 119,
  Char.ofNat 115, Char.ofNat 95, Char.ofNat 112, Char.ofNat 111, Char.ofNat 108, Char.ofNat 105, Char.ofNat 99, Char.ofNat 121, Char.ofNat 95, Char.ofNat 98, Char.ofNat 49, Char.ofNat 46, Char.ofNat 70, Char.ofNat 110, Char.ofNat 80, Char.ofNat 97,
  Char.ofNat 114, Char.ofNat 97, Char.ofNat 109, Char.ofNat 101, Char.ofNat 116, Char.ofNat 101, Char.ofNat 114, Char.ofNat 69, Char.ofNat 110, Char.ofNat 100, Char.ofNat 83, Char.ofNat 107, Char.ofNat 105, Char.ofNat 112, Char.ofNat 115, Char.ofNat 81,
  Char.ofNat 117, Char.ofNat 111, Char.ofNat 116, Char.ofNat 101, Char.ofNat 100, Char.ofNat 65, Char.ofNat 110, Char.ofNat 100, Char.ofNat 69, Char.ofNat 115, Char.ofNat 99, Char.ofNat 97, Char.ofNat 112, Char.ofNat 101, Char.ofNat 100, Char.ofNat 84,
  Char.ofNat 101, Char.ofNat 120, Char.ofNat 116, Char.ofNat 32, Char.ofNat 101, Char.ofNat 120, Char.ofNat 97, Char.ofNat 109, Char.ofNat 112, Char.ofNat 108, Char.ofNat 101, Char.ofNat 46, Char.ofNat 99, Char.ofNat 111, Char.ofNat 109, Char.ofNat 47,
  Char.ofNat 100, Char.ofNat 117, Char.ofNat 114, Char.ofNat 97, Char.ofNat 98, Char.ofNat 108, Char.ofNat 101, Char.ofNat 45, Char.ofNat 108, Char.ofNat 111, Char.ofNat 111, Char.ofNat 112, Char.ofNat 47, Char.ofNat 100, Char.ofNat 117, Char.ofNat 114,
  Char.ofNat 97, Char.ofNat 98, Char.ofNat 108, Char.ofNat 101, Char.ofNat 45, Char.ofNat 108, Char.ofNat 111, Char.ofNat 111, Char.ofNat 112, Char.ofNat 47, Char.ofNat 122, Char.ofNat 122, Char.ofNat 108, Char.ofNat 97, Char.ofNat 119, Char.ofNat 115,
  Char.ofNat 95, Char.ofNat 112, Char.ofNat 111, Char.ofNat 108, Char.ofNat 105, Char.ofNat 99, Char.ofNat 121, Char.ofNat 95, Char.ofNat 98, Char.ofNat 49, Char.ofNat 46, Char.ofNat 70, Char.ofNat 110, Char.ofNat 82, Char.ofNat 101, Char.ofNat 97,
  Char.ofNat 100, Char.ofNat 67, Char.ofNat 111, Char.ofNat 110, Char.ofNat 118, Char.ofNat 101, Char.ofNat 114, Char.ofNat 115, Char.ofNat 105, Char.ofNat 111, Char.ofNat 110, Char.ofNat 68, Char.ofNat 101, Char.ofNat 112, Char.ofNat 101, Char.ofNat 110,
  Char.ofNat 100, Char.ofNat 115, Char.ofNat 79, Char.ofNat 110, Char.ofNat 108, Char.ofNat 121, Char.ofNat 79, Char.ofNat 110, Char.ofNat 84, Char.ofNat 101, Char.ofNat 120, Char.ofNat 116, Char.ofNat 70, Char.ofNat 114, Char.ofNat 111, Char.ofNat 109,
  Char.ofNat 73, Char.ofNat 116, Char.ofNat 115, Char.ofNat 80, Char.ofNat 101, Char.ofNat 114, Char.ofNat 99, Char.ofNat 101, Char.ofNat 110, Char.ofNat 116, Char.ofNat 32, Char.ofNat 101, Char.ofNat 120, Char.ofNat 97, Char.ofNat 109, Char.ofNat 112,
  Char.ofNat 108, Char.ofNat 101, Char.ofNat 46, Char.ofNat 99, Char.ofNat 111, Char.ofNat 109, Char.ofNat 47, Char.ofNat 100, Char.ofNat 117, Char.ofNat 114, Char.ofNat 97, Char.ofNat 98, Char.ofNat 108, Char.ofNat 101, Char.ofNat 45, Char.ofNat 108,
  Char.ofNat 111, Char.ofNat 111, Char.ofNat 112, Char.ofNat 47, Char.ofNat 100, Char.ofNat 117, Char.ofNat 114, Char.ofNat 97, Char.ofNat 98, Char.ofNat 108, Char.ofNat 101, Char.ofNat 45, Char.ofNat 108, Char.ofNat 111, Char.ofNat 111, Char.ofNat 112,
  Char.ofNat 47, Char.ofNat 122, Char.ofNat 122, Char.ofNat 108, Char.ofNat 97, Char.ofNat 119, Char.ofNat 115, Char.ofNat 95, Char.ofNat 112, Char.ofNat 111, Char.ofNat 108, Char.ofNat 105, Char.ofNat 99, Char.ofNat 121, Char.ofNat 95, Char.ofNat 98,
  Char.ofNat 49, Char.ofNat 46, Char.ofNat 70, Char.ofNat 110, Char.ofNat 82, Char.ofNat 101, Char.ofNat 97, Char.ofNat 100, Char.ofNat 67, Char.ofNat 111, Char.ofNat 110, Char.ofNat 118, Char.ofNat 101, Char.ofNat 114, Char.ofNat 115, Char.ofNat 105,
  Char.ofNat 111, Char.ofNat 110, Char.ofNat 82, Char.ofNat 101, Char.ofNat 97, Char.ofNat 100, Char.ofNat 115, Char.ofNat 66, Char.ofNat 97, Char.ofNat 99, Char.ofNat 107, Char.ofNat 65, Char.ofNat 67, Char.ofNat 111, Char.ofNat 110, Char.ofNat 118,
  Char.ofNat 101, Char.ofNat 114, Char.ofNat 115, Char.ofNat 105, Char.ofNat 111, Char.ofNat 110, Char.ofNat 87, Char.ofNat 114, Char.ofNat 105, Char.ofNat 116, Char.ofNat 116, Char.ofNat 101, Char.ofNat 110, Char.ofNat 70, Char.ofNat 114, Char.ofNat 111,
  Char.ofNat 109, Char.ofNat 80, Char.ofNat 97, Char.ofNat 114, Char.ofNat 116, Char.ofNat 115, Char.ofNat 32, Char.ofNat 101, Char.ofNat 120, Char.ofNat 97, Char.ofNat 109, Char.ofNat 112, Char.ofNat 108, Char.ofNat 101, Char.ofNat 46, Char.ofNat 99,
  Char.ofNat 111, Char.ofNat 109, Char.ofNat 47, Char.ofNat 100, Char.ofNat 117, Char.ofNat 114, Char.ofNat 97, Char.ofNat 98, Char.ofNat 108, Char.ofNat 101, Char.ofNat 45, Char.ofNat 108, Char.ofNat 111, Char.ofNat 111, Char.ofNat 112, Char.ofNat 47,
  Char.ofNat 100, Char.ofNat 117, Char.ofNat 114, Char.ofNat 97, Char.ofNat 98, Char.ofNat 108, Char.ofNat 101, Char.ofNat 45, Char.ofNat 108, Char.ofNat 111, Char.ofNat 111, Char.ofNat 112, Char.ofNat 47, Char.ofNat 122, Char.ofNat 122, Char.ofNat 108,
  Char.ofNat 97, Char.ofNat 119, Char.ofNat 115, Char.ofNat 95, Char.ofNat 112, Char.ofNat 111, Char.ofNat 108, Char.ofNat 105, Char.ofNat 99, Char.ofNat 121, Char.ofNat 95, Char.ofNat 98, Char.ofNat 49, Char.ofNat 46, Char.ofNat 70, Char.ofNat 110,
  Char.ofNat 82, Char.ofNat 101, Char.ofNat 97, Char.ofNat 100, Char.ofNat 67, Char.ofNat 111, Char.ofNat 110, Char.ofNat 118, Char.ofNat 101, Char.ofNat 114, Char.ofNat 115, Char.ofNat 105, Char.ofNat 111, Char.ofNat 110, Char.ofNat 65, Char.ofNat 110,
  Char.ofNat 115, Char.ofNat 119, Char.ofNat 101, Char.ofNat 114, Char.ofNat 73, Char.ofNat 115, Char.ofNat 87, Char.ofNat 101, Char.ofNat 108, Char.ofNat 108, Char.ofNat 70, Char.ofNat 111, Char.ofNat 114, Char.ofNat 109, Char.ofNat 101, Char.ofNat 100,
  Char.ofNat 32, Char.ofNat 101, Char.ofNat 120, Char.ofNat 97, Char.ofNat 109, Char.ofNat 112, Char.ofNat 108, Char.ofNat 101, Char.ofNat 46, Char.ofNat 99, Char.ofNat 111, Char.ofNat 109, Char.ofNat 47, Char.ofNat 100, Char.ofNat 117, Char.ofNat 114,
  Char.ofNat 97, Char.ofNat 98, Char.ofNat 108, Char.ofNat 101, Char.ofNat 45, Char.ofNat 108, Char.ofNat 111, Char.ofNat 111, Char.ofNat 112, Char.ofNat 47, Char.ofNat 100, Char.ofNat 117, Char.ofNat 114, Char.ofNat 97, Char.ofNat 98, Char.ofNat 108,
  Char.ofNat 101, Char.ofNat 45, Char.ofNat 108, Char.ofNat 111, Char.ofNat 111, Char.ofNat 112, Char.ofNat 47, Char.ofNat 122, Char.ofNat 122, Char.ofNat 108, Char.ofNat 97, Char.ofNat 119, Char.ofNat 115, Char.ofNat 95, Char.ofNat 112, Char.ofNat 111,
  Char.ofNat 108, Char.ofNat 105, Char.ofNat 99, Char.ofNat 121, Char.ofNat 95, Char.ofNat 98, Char.ofNat 49, Char.ofNat 46, Char.ofNat 70, Char.ofNat 110, Char.ofNat 83, Char.ofNat 116, Char.ofNat 101, Char.ofNat 112, Char.ofNat 75, Char.ofNat 101,
  Char.ofNat 101, Char.ofNat 112, Char.ofNat 115, Char.ofNat 73, Char.ofNat 116, Char.ofNat 115, Char.ofNat 80, Char.ofNat 111, Char.ofNat 115, Char.ofNat 105, Char.ofNat 116, Char.ofNat 105, Char.ofNat 111, Char.ofNat 110, Char.ofNat 73, Char.ofNat 110,
  Char.ofNat 66, Char.ofNat 111, Char.ofNat 117, Char.ofNat 110, Char.ofNat 100, Char.ofNat 115]
/-- The head's word. -/
def cut : List Char := [Char.ofNat 99, Char.ofNat 117, Char.ofNat 116]

set_option maxRecDepth 100000 in
theorem head : Try.pinned.checked.prog.initOrder = String.ofList signs := by kernel_rfl
set_option maxRecDepth 100000 in
theorem words : behindMainWord (wordsSigns signs) = cut :: (behindMainWord (wordsSigns signs)).tail := by kernel_rfl
theorem all_words : behindMainWord (wordsSigns Try.pinned.checked.prog.initOrder.toList) = cut :: (behindMainWord (wordsSigns signs)).tail := by
  rw [head, String.toList_ofList]; exact words

theorem strip (r : List (List Char)) : stripLifts liftWords (cut :: r) = ([], cut :: r) := by kernel_rfl
theorem no1 : (cut == "gc".toList) = false := by kernel_rfl
theorem no2 : (cut == "spec".toList) = false := by kernel_rfl
theorem no3 : (cut == "carried".toList) = false := by kernel_rfl
theorem yes1 : (cut == "cut".toList) = true := by kernel_rfl
theorem later : Try.pinned.checked.prog.laysLater = false := by kernel_rfl
theorem refl0 : Try.pinned.checked.prog.bearsReflect = false := by kernel_rfl
theorem door : Try.pinned.checked.prog.doorFits [] = true := by kernel_rfl

theorem enter_of {P : Program} {ws : List (List Char)} (h : behindMainWord (wordsSigns P.initOrder.toList) = cut :: ws) (h1 : P.laysLater = false) (h2 : P.bearsReflect = false) (h3 : P.doorFits [] = true) : P.mayEnter = true := by
  unfold Program.mayEnter
  rw [h]
  simp only [strip, no1, no2, no3, h1, h2, h3]
  simp
  rfl
theorem no_lifts {P : Program} {ws : List (List Char)} (h : behindMainWord (wordsSigns P.initOrder.toList) = cut :: ws) : P.headLifts = [] := by
  unfold Program.headLifts
  rw [h]
  simp only [strip]
  split <;> rfl
theorem lifts_of {P : Program} {ws : List (List Char)} (h : behindMainWord (wordsSigns P.initOrder.toList) = cut :: ws) : (false == P.liftsFinal) = true := by
  unfold Program.liftsFinal
  rw [no_lifts h, h]
  simp only [List.head?_cons]
  rw [show (some cut == some "carried".toList) = false from no3]
  rfl
theorem make_of {P : Program} {ws : List (List Char)} (h : behindMainWord (wordsSigns P.initOrder.toList) = cut :: ws) : (P.make == some .cut) = true := by
  unfold Program.make
  rw [h]
  simp only [no1, no2, yes1]
  rfl

theorem mayEnter : Try.pinned.checked.prog.mayEnter = true := enter_of all_words later refl0 door
theorem lifts : (false == Try.pinned.checked.prog.liftsFinal) = true := lifts_of all_words
theorem make : (Try.pinned.checked.prog.make == some .cut) = true := make_of all_words
end Go.Proofs.Qxb6601225a.Closed

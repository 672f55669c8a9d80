import Derived.Test.Qxb6601225aRows
import Derived.ProofKit
/-
  THREE CLOSED FACTS on the whole program, each by itself (together they outgrow the kernel's memory).
-/
namespace Go.Proofs.Qxb6601225a.Closed
theorem mayEnter : Try.pinned.checked.prog.mayEnter = true := by kernel_rfl
theorem lifts : (false == Try.pinned.checked.prog.liftsFinal) = true := by kernel_rfl
theorem make : (Try.pinned.checked.prog.make == some .cut) = true := by kernel_rfl
end Go.Proofs.Qxb6601225a.Closed

/-
  A FACT of the program's head, by the kernel, in a declaration of its own (it is great).
-/
import Derived.Test.YtnmhoghmhglimaaDoorCards
import Derived.KernelRfl
namespace Go.Proofs.YtnmhoghmhglimaaDoor.Facts
open Go
theorem mayEnter : Tryd.pinned.checked.prog.mayEnter = true := by kernel_rfl
end Go.Proofs.YtnmhoghmhglimaaDoor.Facts

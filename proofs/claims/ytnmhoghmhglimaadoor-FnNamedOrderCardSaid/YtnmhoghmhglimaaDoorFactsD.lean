/-
  A FACT of the program's head, by the kernel, in a declaration of its own (it is great).
-/
import Derived.Test.YtnmhoghmhglimaaDoorCards
import Derived.KernelRfl
namespace Go.Proofs.YtnmhoghmhglimaaDoor.Facts
open Go
theorem mainIs : Tryd.pinned.checked.prog.mainIs = some (Rows.fnNamedOrderCard.stood.harness.1, Rows.fnNamedOrderCard.stood.harness.2.toList) := by kernel_rfl
end Go.Proofs.YtnmhoghmhglimaaDoor.Facts

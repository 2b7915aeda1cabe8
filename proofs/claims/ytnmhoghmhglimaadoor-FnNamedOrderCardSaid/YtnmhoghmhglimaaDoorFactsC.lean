/-
  A FACT of the program's head, by the kernel, in a declaration of its own (it is great).
-/
import Derived.Test.YtnmhoghmhglimaaDoorCards
import Derived.KernelRfl
namespace Go.Proofs.YtnmhoghmhglimaaDoor.Facts
open Go
theorem make : Tryd.pinned.checked.prog.make = some Rows.fnNamedOrderRow.make := by kernel_rfl
end Go.Proofs.YtnmhoghmhglimaaDoor.Facts

/-
  A FACT of the program's head, by the kernel, in a declaration of its own (it is great).
-/
import Derived.Test.YtabaldpjahcilaaDoorCards
import Derived.KernelRfl
namespace Go.Proofs.YtabaldpjahcilaaDoor.Facts
open Go
theorem mayEnter : Tryd.pinned.checked.prog.mayEnter = true := by kernel_rfl
end Go.Proofs.YtabaldpjahcilaaDoor.Facts

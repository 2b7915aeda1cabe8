/-
  A FACT of the program's head, by the kernel, in a declaration of its own (it is great).
-/
import Derived.Test.YtabaldpjahcilaaDoorCards
import Derived.KernelRfl
namespace Go.Proofs.YtabaldpjahcilaaDoor.Facts
open Go
theorem mainIs : Tryd.pinned.checked.prog.mainIs = some (Rows.fnDebugCard.stood.harness.1, Rows.fnDebugCard.stood.harness.2.toList) := by kernel_rfl
end Go.Proofs.YtabaldpjahcilaaDoor.Facts

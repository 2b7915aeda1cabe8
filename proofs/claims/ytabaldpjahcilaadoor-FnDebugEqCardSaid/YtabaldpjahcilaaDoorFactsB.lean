/-
  A FACT of the program's head, by the kernel, in a declaration of its own (it is great).
-/
import Derived.Test.YtabaldpjahcilaaDoorCards
import Derived.KernelRfl
namespace Go.Proofs.YtabaldpjahcilaaDoor.Facts
open Go
theorem liftsFinal : Tryd.pinned.checked.prog.liftsFinal = Rows.fnDebugRow.lifted := by kernel_rfl
end Go.Proofs.YtabaldpjahcilaaDoor.Facts

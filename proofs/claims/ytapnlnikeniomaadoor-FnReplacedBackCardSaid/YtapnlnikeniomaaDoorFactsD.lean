/-
  A FACT of the program's head, by the kernel, in a declaration of its own (it is great).
-/
import Derived.Test.YtapnlnikeniomaaDoorCards
import Derived.KernelRfl
namespace Go.Proofs.YtapnlnikeniomaaDoor.Facts
open Go
theorem mainIs : Tryd.pinned.checked.prog.mainIs = some (Rows.fnReplacedBackCard.stood.harness.1, Rows.fnReplacedBackCard.stood.harness.2.toList) := by kernel_rfl
end Go.Proofs.YtapnlnikeniomaaDoor.Facts

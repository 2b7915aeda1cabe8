/-
  A FACT of the program's head, by the kernel, in a declaration of its own (it is great).
-/
import Derived.Test.YtapnlnikeniomaaDoorCards
import Derived.KernelRfl
namespace Go.Proofs.YtapnlnikeniomaaDoor.Facts
open Go
theorem mayEnter : Tryd.pinned.checked.prog.mayEnter = true := by kernel_rfl
end Go.Proofs.YtapnlnikeniomaaDoor.Facts

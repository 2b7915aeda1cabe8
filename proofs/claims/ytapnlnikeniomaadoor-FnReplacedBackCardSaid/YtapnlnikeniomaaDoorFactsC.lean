/-
  A FACT of the program's head, by the kernel, in a declaration of its own (it is great).
-/
import Derived.Test.YtapnlnikeniomaaDoorCards
import Derived.KernelRfl
namespace Go.Proofs.YtapnlnikeniomaaDoor.Facts
open Go
theorem make : Tryd.pinned.checked.prog.make = some Rows.fnReplacedBackRow.make := by kernel_rfl
end Go.Proofs.YtapnlnikeniomaaDoor.Facts

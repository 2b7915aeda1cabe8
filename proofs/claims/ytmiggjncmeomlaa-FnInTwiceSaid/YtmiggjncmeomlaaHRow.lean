/-
  A row of bytes of the call's own, as it holds a list of bytes.
-/
import Derived.Test.YtmiggjncmeomlaaWWords
import Derived.Test.YtmiggjncmeomlaaWLast
import Derived.Test.YtmiggjncmeomlaaWMore
import Derived.Test.YtmiggjncmeomlaaShelf
import Derived.Lib.UnsafeStr
import Derived.Lib.Builder
import Derived.OwnWalk
namespace Go.Proofs.Ytmiggjncmeomlaa.H
open Go.RowKit Go.Proofs.YtmiggjncmeomlaaW.PrintWords
set_option linter.unusedVariables false

/-- v is a row of the call's own (from block B on) that holds these bytes. -/
def Row (B : Nat) (l : List UInt8) (v : Value) (w : World) : Prop := w.ownsRow B 5 1 v l.length (Lib.byteCells l)
def intsOf (l : List UInt8) : List Int := l.map fun b => (b.toNat : Int)
theorem nums_ints (l : List UInt8) : nums .u8 (intsOf l) = Lib.byteCells l := by simp [nums, intsOf, Lib.byteCells]
theorem ints_len (l : List UInt8) : (intsOf l).length = l.length := by simp [intsOf]
theorem row_info : (Try.prog.info? 5).map (fun i => (i.zero, i.size, i.bytes)) = some (some (.int .u8 0), 1, 1) := by kernel_rfl
theorem row_slice {B : Nat} {l : List UInt8} {v : Value} {w : World} (h : Row B l v w) : ∃ A c, v = .slice A l.length c := own_slice h

end Go.Proofs.Ytmiggjncmeomlaa.H

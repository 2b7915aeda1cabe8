/-
  The print's own contracts of the reference's ValuesAt, Closing and LongS, under this seat's short names (so that contracts by hand and the print speak of the same functions).
-/
import Derived.Test.YtnmhoghmhglimaaDoorQB2
import Derived.Test.YtnmhoghmhglimaaDoorQB3
namespace Go.Proofs.YtnmhoghmhglimaaDoor.H
open Go.RowKit Go.Proofs.YtnmhoghmhglimaaDoorW.PrintWords

def spec_ValuesAt.f (k : Nat) (a0 : ByteArray) : Option Int := QB.spec_ValuesAt.f k a0
theorem spec_ValuesAt.mono : ∀ a0 k, LeO (spec_ValuesAt.f k a0) (spec_ValuesAt.f (k + 1) a0) := QB.spec_ValuesAt.mono
theorem spec_ValuesAt.calls (k : Nat) (a0 : ByteArray) (r : Int) (w : World) (h : spec_ValuesAt.f k a0 = some r) :
    Calls Tryd.prog 21 #[.string a0] w fun e w' => e = .returned (.int .i64 r) ∧ Drawn0 w w' := QB.spec_ValuesAt.calls k a0 r w h
def spec_Closing.f (k : Nat) (a0 : ByteArray) (a1 : Int) : Option Int := QB.spec_Closing.f k a0 a1
theorem spec_Closing.mono : ∀ a0 a1 k, LeO (spec_Closing.f k a0 a1) (spec_Closing.f (k + 1) a0 a1) := QB.spec_Closing.mono
theorem spec_Closing.calls (k : Nat) (a0 : ByteArray) (a1 : Int) (r : Int) (w : World) (h : spec_Closing.f k a0 a1 = some r) :
    Calls Tryd.prog 22 #[.string a0, .int .i64 a1] w fun e w' => e = .returned (.int .i64 r) ∧ Drawn0 w w' := QB.spec_Closing.calls k a0 a1 r w h
def spec_LongS.f (k : Nat) (a0 : ByteArray) : Option Bool := QB.spec_LongS.f k a0
theorem spec_LongS.mono : ∀ a0 k, LeO (spec_LongS.f k a0) (spec_LongS.f (k + 1) a0) := QB.spec_LongS.mono
theorem spec_LongS.calls (k : Nat) (a0 : ByteArray) (r : Bool) (w : World) (h : spec_LongS.f k a0 = some r) :
    Calls Tryd.prog 18 #[.string a0] w fun e w' => e = .returned (.bool r) ∧ Drawn0 w w' := QB.spec_LongS.calls k a0 r w h
end Go.Proofs.YtnmhoghmhglimaaDoor.H

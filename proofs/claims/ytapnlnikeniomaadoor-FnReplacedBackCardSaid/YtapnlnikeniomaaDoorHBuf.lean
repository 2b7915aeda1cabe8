/-
  A CONTRACT: bytes.Buffer, as it holds bytes that were written into it (over the shelf's contracts).
-/
import Derived.Test.YtapnlnikeniomaaDoorShelf
import Derived.Test.YtapnlnikeniomaaDoorWWords
namespace Go.Proofs.YtapnlnikeniomaaDoor.H
open Go.RowKit Go.Proofs.YtapnlnikeniomaaDoorW.PrintWords

theorem below_on {B B2 : Nat} {w w1 w2 : World} (h : Below B w w1) (hB : B ≤ B2) (k : Below B2 w1 w2) : Below B w w2 :=
  h.trans ⟨k.os, k.tape, k.output, k.size, fun i hi => k.block i (Nat.lt_of_lt_of_le hi hB)⟩
/-- Block b is a bytes.Buffer of the call's own (from block B on) that holds these bytes. -/
def Buf (B b : Nat) (l : List UInt8) (w : World) : Prop := Lib.IsBuffer 55 5 B b (Lib.byteCells l) w
theorem buf_fresh (w : World) : Buf w.heap.size w.heap.size [] (w.alloc (.cells #[.slice none 0 0, .int .i64 0, .int .i8 0] 55)) := Lib.fresh_isBuffer 55 5 w
theorem buf_write (B b : Nat) (l : List UInt8) (s : ByteArray) (w : World) (h : Buf B b l w) (hBw : B ≤ w.heap.size) (hlim : l.length + s.size ≤ 140737488355328) :
    Calls Tryd.prog 26 #[.pointer (some ⟨b, 0, none⟩), .string s] w fun e w' => e = .returned (.tuple #[.int .i64 s.size, .nilIface]) ∧ Buf B b (l ++ s.data.toList) w' ∧ Below B w w' ∧ Lib.OthersKept 5 (some b) w w' := by
  refine (Tryd.Buffer_WriteString_k B b _ s w h hBw (Lib.byteCells_one _) (by rw [Lib.byteCells_length]; exact hlim)).mono ?_
  rintro e w1 ⟨rfl, h1, h2, h3⟩
  refine ⟨rfl, ?_, h2, h3⟩
  unfold Buf
  rw [Lib.byteCells_append]
  exact h1
theorem buf_string (B b : Nat) (l : List UInt8) (w : World) (h : Buf B b l w) :
    Calls Tryd.prog 28 #[.pointer (some ⟨b, 0, none⟩)] w fun e w' => e = .returned (.string ⟨l.toArray⟩) ∧ ∃ n, w' = w.drewN n := Tryd.Buffer_String_at _ _ B b 0 l w (LibA.of_whole h)
end Go.Proofs.YtapnlnikeniomaaDoor.H

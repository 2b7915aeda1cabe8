/-
  MERGED BY A PROGRAM OF THIS SESSION (wip/pack.py): Shelf, HBuf, HRow, HCompL, HFind, HWords, HValues, HFix, HIndex, HRebind, HThree.
-/
import Derived.Shelf.Strings.Builder1
import Derived.Shelf.Strings.Builder2
import Derived.Shelf.Strings.BuilderF
import Derived.Shelf.Strings.BuilderK
import Derived.Shelf.Strings.Builder2Cap
import Derived.Shelf.Strconv.Itoa0
import Derived.Shelf.Strconv.Itoa1
import Derived.Shelf.LaysM
import Derived.Shelf.Strconv.Itoa2
import Derived.Shelf.Strconv.Itoa3
import Derived.Shelf.Bytes.Len
import Derived.Shelf.Bytes.TryGrow
import Derived.Shelf.Bytes.GrowSliceCatch
import Derived.Shelf.Bytes.GrowSlice
import Derived.Shelf.Bytes.GrowRow0Kept
import Derived.Shelf.Bytes.GrowRowKept
import Derived.Shelf.Bytes.GrowNilKept
import Derived.Shelf.Bytes.GrowKept
import Derived.Shelf.Bytes.WriteStringKept
import Derived.Shelf.Bytes.ResetKept
import Derived.Shelf.Bytes.BufferK
import Derived.Shelf.Strconv.AppendUint10
import Derived.Shelf.Strconv.AppendInt10
import Derived.Shelf.Strconv.AppendIntPublic10
import Derived.Shelf.Bytes.StringAt
import Derived.Shelf.Strings.BuilderCap
import Derived.Test.YtnmhoghmhglimaaDoorProg
import Derived.Test.YtnmhoghmhglimaaDoorVA
import Derived.Lib.ItoaLen
import Derived.OwnWalk
import Derived.WalkKit
import Derived.Handy
import Derived.Laws.RangeAny
import Derived.Lib.Hide
import Derived.Outline
import Derived.Test.YtnmhoghmhglimaaDoorVQ
import Derived.Lib.OthersKept
import Derived.Deep.LoopGhost
import Derived.Laws.AppendOwnNone
/-
  DERIVED: THE SHELF's CONTRACTS AT THIS DUMP, IN PLAIN WORDS (tools/lay-plain.mjs out of 'TrydShelf.lean', which tools/lay-shelf.mjs wrote): THE SAME DECLARATIONS UNDER THE SAME NAMES: 'import', 'namespace', 'open', 'def', 'theorem' AND NOTHING ELSE: no command of the shelf's: FOR A HAND-IN. Each laying: the table of numbers ('.._ren') and one theorem, a field a fact of the dump's own or the kernel's comparison; each contract: ONE APPLICATION.
-/
namespace Go.Proofs
open Go.Shelf
def Tryd.lays169_ren : Go.Shelf.Ren := ⟨fun | 169 => 76 | n => n, fun | 70 => 105 | 9 => 9 | 0 => 0 | 72 => 107 | 37 => 92 | 127 => 125 | 3 => 3 | 5 => 5 | n => n, fun | n => n⟩
def Tryd.lays241_ren : Go.Shelf.Ren := ⟨fun | 241 => 87 | 277 => 97 | n => n, fun | 70 => 105 | 3 => 3 | 0 => 0 | 72 => 107 | 37 => 92 | 5 => 5 | n => n, fun | n => n⟩
def Tryd.lays165_ren : Go.Shelf.Ren := ⟨fun | 165 => 73 | 240 => 86 | 241 => 87 | 276 => 96 | 277 => 97 | n => n, fun | 70 => 105 | 3 => 3 | 0 => 0 | 4 => 4 | 9 => 9 | 20 => 20 | 72 => 107 | 37 => 92 | 164 => 136 | 5 => 5 | n => n, fun | n => n⟩
def Tryd.lays129_ren : Go.Shelf.Ren := ⟨fun | 129 => 108 | n => n, fun | 53 => 131 | 3 => 3 | 4 => 4 | 46 => 152 | 5 => 5 | 9 => 9 | n => n, fun | n => n⟩
def Tryd.lays317_ren : Go.Shelf.Ren := ⟨fun | 317 => 107 | n => n, fun | 3 => 3 | 46 => 152 | n => n, fun | n => n⟩
def Tryd.lays318_ren : Go.Shelf.Ren := ⟨fun | 318 => 109 | n => n, fun | 3 => 3 | 4 => 4 | n => n, fun | n => n⟩
def Tryd.lays283_ren : Go.Shelf.Ren := ⟨fun | 283 => 101 | n => n, fun | 3 => 3 | 9 => 9 | 4 => 4 | n => n, fun | n => n⟩
def Tryd.laysM284_ren : Go.Shelf.Ren := ⟨fun | 284 => 102 | 129 => 108 | 317 => 107 | 318 => 109 | n => n, fun | 53 => 131 | 3 => 3 | 212 => 148 | 0 => 0 | 4 => 4 | 46 => 152 | 5 => 5 | 9 => 9 | n => n, fun | 17 => 2 | n => n⟩
def Tryd.lays285_ren : Go.Shelf.Ren := ⟨fun | 285 => 103 | n => n, fun | 37 => 92 | 53 => 131 | 3 => 3 | 4 => 4 | 51 => 149 | 9 => 9 | 5 => 5 | 0 => 0 | n => n, fun | n => n⟩
def Tryd.laysM246_ren : Go.Shelf.Ren := ⟨fun | 246 => 105 | 283 => 101 | 284 => 102 | 285 => 103 | 286 => 104 | 129 => 108 | 317 => 107 | 318 => 109 | 319 => 110 | 320 => 111 | 337 => 112 | 338 => 113 | n => n, fun | 2 => 2 | 3 => 3 | 9 => 9 | 4 => 4 | 171 => 141 | 0 => 0 | 53 => 131 | 37 => 92 | 5 => 5 | 173 => 144 | 212 => 148 | 51 => 149 | 20 => 20 | 213 => 150 | 46 => 152 | 232 => 155 | 233 => 156 | n => n, fun | 17 => 2 | 18 => 3 | 19 => 4 | n => n⟩
def Tryd.lays246_ren : Go.Shelf.Ren := ⟨fun | 246 => 105 | 283 => 101 | 284 => 102 | 285 => 103 | 286 => 104 | 129 => 108 | 317 => 107 | 318 => 109 | 319 => 110 | 320 => 111 | 337 => 112 | 338 => 113 | n => n, fun | 2 => 2 | 3 => 3 | 9 => 9 | 4 => 4 | 171 => 141 | 0 => 0 | 53 => 131 | 37 => 92 | 5 => 5 | 173 => 144 | 212 => 148 | 51 => 149 | 20 => 20 | 213 => 150 | 46 => 152 | 232 => 155 | 233 => 156 | n => n, fun | 17 => 2 | 18 => 3 | 19 => 4 | n => n⟩
def Tryd.laysM243_ren : Go.Shelf.Ren := ⟨fun | 243 => 93 | 246 => 105 | 283 => 101 | 284 => 102 | 285 => 103 | 286 => 104 | 129 => 108 | 317 => 107 | 318 => 109 | 319 => 110 | 320 => 111 | 337 => 112 | 338 => 113 | n => n, fun | 3 => 3 | 9 => 9 | 2 => 2 | 4 => 4 | 171 => 141 | 0 => 0 | 53 => 131 | 37 => 92 | 5 => 5 | 173 => 144 | 212 => 148 | 51 => 149 | 20 => 20 | 213 => 150 | 46 => 152 | 232 => 155 | 233 => 156 | n => n, fun | 17 => 2 | 18 => 3 | 19 => 4 | n => n⟩
def Tryd.lays243_ren : Go.Shelf.Ren := ⟨fun | 243 => 93 | 246 => 105 | 283 => 101 | 284 => 102 | 285 => 103 | 286 => 104 | 129 => 108 | 317 => 107 | 318 => 109 | 319 => 110 | 320 => 111 | 337 => 112 | 338 => 113 | n => n, fun | 3 => 3 | 9 => 9 | 2 => 2 | 4 => 4 | 171 => 141 | 0 => 0 | 53 => 131 | 37 => 92 | 5 => 5 | 173 => 144 | 212 => 148 | 51 => 149 | 20 => 20 | 213 => 150 | 46 => 152 | 232 => 155 | 233 => 156 | n => n, fun | 17 => 2 | 18 => 3 | 19 => 4 | n => n⟩
def Tryd.laysM171_ren : Go.Shelf.Ren := ⟨fun | 171 => 82 | 243 => 93 | 246 => 105 | 283 => 101 | 284 => 102 | 285 => 103 | 286 => 104 | 129 => 108 | 317 => 107 | 318 => 109 | 319 => 110 | 320 => 111 | 337 => 112 | 338 => 113 | n => n, fun | 3 => 3 | 9 => 9 | 2 => 2 | 4 => 4 | 171 => 141 | 0 => 0 | 53 => 131 | 37 => 92 | 5 => 5 | 173 => 144 | 212 => 148 | 51 => 149 | 20 => 20 | 213 => 150 | 46 => 152 | 232 => 155 | 233 => 156 | n => n, fun | 17 => 2 | 18 => 3 | 19 => 4 | n => n⟩
theorem Tryd.laysM171 : Go.Proofs.LaysM.n171 Tryd.prog Tryd.laysM171_ren := {
  mixed := by kernel_rfl
  f129 := Tryd.func108.trans (congrArg some (by kernel_rfl))
  f171 := Tryd.func82.trans (congrArg some (by kernel_rfl))
  f243 := Tryd.func93.trans (congrArg some (by kernel_rfl))
  f246 := Tryd.func105.trans (congrArg some (by kernel_rfl))
  f283 := Tryd.func101.trans (congrArg some (by kernel_rfl))
  f284 := Tryd.func102.trans (congrArg some (by kernel_rfl))
  f285 := Tryd.func103.trans (congrArg some (by kernel_rfl))
  f286 := Tryd.func104.trans (congrArg some (by kernel_rfl))
  f317 := Tryd.func107.trans (congrArg some (by kernel_rfl))
  f318 := Tryd.func109.trans (congrArg some (by kernel_rfl))
  f319 := Tryd.func110.trans (congrArg some (by kernel_rfl))
  f320 := Tryd.func111.trans (congrArg some (by kernel_rfl))
  f337 := Tryd.func112.trans (congrArg some (by kernel_rfl))
  f338 := Tryd.func113.trans (congrArg some (by kernel_rfl))
  t0 := Tryd.underlying0
  a0 := Tryd.isAgg0
  z0 := Tryd.sizeOf0
  v0 := Tryd.zeroValue0
  t2 := Tryd.underlying2
  a2 := Tryd.isAgg2
  z2 := Tryd.sizeOf2
  v2 := Tryd.zeroValue2
  t3 := Tryd.underlying3
  a3 := Tryd.isAgg3
  z3 := Tryd.sizeOf3
  v3 := Tryd.zeroValue3
  t4 := Tryd.underlying4
  a4 := Tryd.isAgg4
  z4 := Tryd.sizeOf4
  v4 := Tryd.zeroValue4
  t5 := Tryd.underlying5
  a5 := Tryd.isAgg5
  z5 := Tryd.sizeOf5
  v5 := Tryd.zeroValue5
  t9 := Tryd.underlying9
  a9 := Tryd.isAgg9
  z9 := Tryd.sizeOf9
  v9 := Tryd.zeroValue9
  t20 := Tryd.underlying20
  a20 := Tryd.isAgg20
  z20 := Tryd.sizeOf20
  v20 := Tryd.zeroValue20
  t37 := Tryd.underlying92
  a37 := Tryd.isAgg92
  z37 := Tryd.sizeOf92
  v37 := Tryd.zeroValue92
  t46 := Tryd.underlying152
  a46 := Tryd.isAgg152
  z46 := Tryd.sizeOf152
  v46 := Tryd.zeroValue152
  t51 := Tryd.underlying149
  a51 := Tryd.isAgg149
  z51 := Tryd.sizeOf149
  v51 := Tryd.zeroValue149
  t53 := Tryd.underlying131
  a53 := Tryd.isAgg131
  z53 := Tryd.sizeOf131
  v53 := Tryd.zeroValue131
  t171 := Tryd.underlying141
  a171 := Tryd.isAgg141
  z171 := Tryd.sizeOf141
  v171 := Tryd.zeroValue141
  t173 := Tryd.underlying144
  a173 := Tryd.isAgg144
  z173 := Tryd.sizeOf144
  v173 := Tryd.zeroValue144
  t212 := Tryd.underlying148
  a212 := Tryd.isAgg148
  z212 := Tryd.sizeOf148
  v212 := Tryd.zeroValue148
  t213 := Tryd.underlying150
  a213 := Tryd.isAgg150
  z213 := Tryd.sizeOf150
  t232 := Tryd.underlying155
  a232 := Tryd.isAgg155
  z232 := Tryd.sizeOf155
  v232 := Tryd.zeroValue155
  t233 := Tryd.underlying156
  a233 := Tryd.isAgg156
  z233 := Tryd.sizeOf156
  v233 := Tryd.zeroValue156
  g17 := by kernel_rfl
  g18 := by kernel_rfl
  g19 := by kernel_rfl
  i0 := by kernel_rfl
  i2 := by kernel_rfl
  i3 := by kernel_rfl
  i4 := by kernel_rfl
  i5 := by kernel_rfl
  i9 := by kernel_rfl
  i20 := by kernel_rfl
  i37 := by kernel_rfl
  i46 := by kernel_rfl
  i51 := by kernel_rfl
  i53 := by kernel_rfl
  i171 := by kernel_rfl
  i173 := by kernel_rfl
  i212 := by kernel_rfl
  i232 := by kernel_rfl
  i233 := by kernel_rfl
  m17 := by kernel_rfl
  m18 := by kernel_rfl
  m19 := by kernel_rfl }
open Go.RowKit Go.Sort Go.Lib in
/-- strconv.Itoa: "Itoa is equivalent to FormatInt(int64(i), 10).": i's DECIMAL NUMERAL ('Lib.itoa': a '-' where i is negative, then the digits), FOR EVERY int. The world behind the call: the world before it, new blocks behind the heap (the library's 'var a [24]byte'), draws. (LAID: no walk: one application.) -/
theorem Tryd.strconv_Itoa (n : Int) (h0 : -9223372036854775808 ≤ n) (h1 : n ≤ 9223372036854775807) (w : World) (htab : Lib.TabIs Tryd.prog w "internal/strconv.uint64pow10" .u64 Lib.pow10Tab) :
    Calls Tryd.prog 82 #[.int .i64 n] w fun e w' => e = .returned (.string ⟨(Lib.itoa n).toArray⟩) ∧ ∃ k os, w' = grow (w.drewN k) os := Any.strconv_Itoa Tryd.laysM171 n h0 h1 w htab
def Tryd.lays171_ren : Go.Shelf.Ren := ⟨fun | 171 => 82 | 243 => 93 | 246 => 105 | 283 => 101 | 284 => 102 | 285 => 103 | 286 => 104 | 129 => 108 | 317 => 107 | 318 => 109 | 319 => 110 | 320 => 111 | 337 => 112 | 338 => 113 | n => n, fun | 3 => 3 | 9 => 9 | 2 => 2 | 4 => 4 | 171 => 141 | 0 => 0 | 53 => 131 | 37 => 92 | 5 => 5 | 173 => 144 | 212 => 148 | 51 => 149 | 20 => 20 | 213 => 150 | 46 => 152 | 232 => 155 | 233 => 156 | n => n, fun | 17 => 2 | 18 => 3 | 19 => 4 | n => n⟩
def Tryd.laysM181_ren : Go.Shelf.Ren := ⟨fun | 181 => 98 | n => n, fun | 130 => 127 | 3 => 3 | 0 => 0 | 93 => 118 | 37 => 92 | 91 => 116 | 5 => 5 | n => n, fun | n => n⟩
def Tryd.laysM251_ren : Go.Shelf.Ren := ⟨fun | 251 => 90 | n => n, fun | 130 => 127 | 3 => 3 | 4 => 4 | 0 => 0 | 93 => 118 | 37 => 92 | 91 => 116 | 5 => 5 | n => n, fun | n => n⟩
def Tryd.laysM324_ren : Go.Shelf.Ren := ⟨fun | 324 => 106 | n => n, fun | 20 => 20 | 4 => 4 | 75 => 74 | 0 => 0 | 80 => 112 | 9 => 9 | n => n, fun | 14 => 0 | n => n⟩
def Tryd.laysM290_ren : Go.Shelf.Ren := ⟨fun | 290 => 100 | 324 => 106 | n => n, fun | 37 => 92 | 3 => 3 | 0 => 0 | 4 => 4 | 20 => 20 | 75 => 74 | 5 => 5 | 80 => 112 | 9 => 9 | n => n, fun | 14 => 0 | n => n⟩
def Tryd.laysM252_ren : Go.Shelf.Ren := ⟨fun | 252 => 91 | 181 => 98 | 184 => 99 | 251 => 90 | 290 => 100 | 324 => 106 | n => n, fun | 130 => 127 | 3 => 3 | 4 => 4 | 0 => 0 | 93 => 118 | 131 => 128 | 37 => 92 | 75 => 74 | 91 => 116 | 20 => 20 | 5 => 5 | 80 => 112 | 9 => 9 | n => n, fun | 14 => 0 | n => n⟩
def Tryd.laysM178_ren : Go.Shelf.Ren := ⟨fun | 178 => 79 | 251 => 90 | 252 => 91 | 181 => 98 | 184 => 99 | 290 => 100 | 324 => 106 | n => n, fun | 130 => 127 | 9 => 9 | 3 => 3 | 75 => 74 | 0 => 0 | 93 => 118 | 91 => 116 | 131 => 128 | 4 => 4 | 37 => 92 | 20 => 20 | 80 => 112 | 5 => 5 | n => n, fun | 14 => 0 | n => n⟩
def Tryd.laysM184_ren : Go.Shelf.Ren := ⟨fun | 184 => 99 | n => n, fun | 130 => 127 | 0 => 0 | 93 => 118 | 37 => 92 | 3 => 3 | 91 => 116 | 5 => 5 | n => n, fun | n => n⟩
def Tryd.laysM288_ren : Go.Shelf.Ren := ⟨fun | 288 => 92 | 283 => 101 | 284 => 102 | 285 => 103 | 286 => 104 | 129 => 108 | 317 => 107 | 318 => 109 | 319 => 110 | 320 => 111 | 337 => 112 | 338 => 113 | n => n, fun | 37 => 92 | 53 => 131 | 3 => 3 | 4 => 4 | 9 => 9 | 171 => 141 | 0 => 0 | 173 => 144 | 212 => 148 | 51 => 149 | 5 => 5 | 20 => 20 | 213 => 150 | 46 => 152 | 232 => 155 | 233 => 156 | n => n, fun | 17 => 2 | 18 => 3 | 19 => 4 | n => n⟩
def Tryd.laysM249_ren : Go.Shelf.Ren := ⟨fun | 249 => 81 | 288 => 92 | 283 => 101 | 284 => 102 | 285 => 103 | 286 => 104 | 129 => 108 | 317 => 107 | 318 => 109 | 319 => 110 | 320 => 111 | 337 => 112 | 338 => 113 | n => n, fun | 37 => 92 | 2 => 2 | 3 => 3 | 53 => 131 | 4 => 4 | 9 => 9 | 171 => 141 | 0 => 0 | 173 => 144 | 212 => 148 | 51 => 149 | 5 => 5 | 20 => 20 | 213 => 150 | 46 => 152 | 232 => 155 | 233 => 156 | n => n, fun | 17 => 2 | 18 => 3 | 19 => 4 | n => n⟩
def Tryd.laysM176_ren : Go.Shelf.Ren := ⟨fun | 176 => 65 | 249 => 81 | 288 => 92 | 283 => 101 | 284 => 102 | 285 => 103 | 286 => 104 | 129 => 108 | 317 => 107 | 318 => 109 | 319 => 110 | 320 => 111 | 337 => 112 | 338 => 113 | n => n, fun | 37 => 92 | 2 => 2 | 3 => 3 | 53 => 131 | 4 => 4 | 9 => 9 | 171 => 141 | 0 => 0 | 173 => 144 | 212 => 148 | 51 => 149 | 5 => 5 | 20 => 20 | 213 => 150 | 46 => 152 | 232 => 155 | 233 => 156 | n => n, fun | 17 => 2 | 18 => 3 | 19 => 4 | n => n⟩
def Tryd.laysM182_ren : Go.Shelf.Ren := ⟨fun | 182 => 80 | n => n, fun | 130 => 127 | 9 => 9 | 4 => 4 | 0 => 0 | 93 => 118 | 37 => 92 | 3 => 3 | 91 => 116 | 5 => 5 | n => n, fun | n => n⟩
end Go.Proofs
/-
  A CONTRACT: bytes.Buffer, as it holds bytes that were written into it (over the shelf's contracts).
-/
namespace Go.Proofs.YtnmhoghmhglimaaDoor.H
open Go.RowKit Go.Proofs.YtnmhoghmhglimaaDoorW.PrintWords

/-- Block b is a bytes.Buffer of the call's own (from block B on) that holds these bytes. -/
def Buf (B b : Nat) (l : List UInt8) (w : World) : Prop := Lib.IsBuffer 118 5 B b (Lib.byteCells l) w
end Go.Proofs.YtnmhoghmhglimaaDoor.H
/-
  CONTRACTS over a row of bytes of the call's own, as it holds a list of bytes: make, append of bytes and of a text, strconv.AppendInt, and the text that it is turned into. And the table that AppendInt reads.
-/
namespace Go.Proofs.YtnmhoghmhglimaaDoor.H
open Go.RowKit Go.Proofs.YtnmhoghmhglimaaDoorW.PrintWords
set_option linter.unusedVariables false

/-- The table of internal/strconv reads as its initialiser lays it. -/
def Tab (w : World) : Prop := Lib.TabIs Tryd.prog w "internal/strconv.uint64pow10" .u64 Lib.pow10Tab
/-- .. whatever is done from block B on. -/
def TabB (B : Nat) (w : World) : Prop := Lib.TabBelow Tryd.prog B w "internal/strconv.uint64pow10" .u64 Lib.pow10Tab
theorem tab_below {w : World} (h : Tab w) : TabB w.heap.size w := Lib.tabBelow_of_tabIs h
theorem tab_at {B : Nat} {w w2 : World} (h : TabB B w) (k : Below B w w2) : Tab w2 := (h.on k).here
/-- v is a row of the call's own (from block B on) that holds these bytes. -/
def Row (B : Nat) (l : List UInt8) (v : Value) (w : World) : Prop := w.ownsRow B 5 1 v l.length (Lib.byteCells l)
def intsOf (l : List UInt8) : List Int := l.map fun b => (b.toNat : Int)
theorem nums_ints (l : List UInt8) : nums .u8 (intsOf l) = Lib.byteCells l := by simp [nums, intsOf, Lib.byteCells]
theorem row_info : (Tryd.prog.info? 5).map (fun i => (i.zero, i.size, i.bytes)) = some (some (.int .u8 0), 1, 1) := by kernel_rfl
theorem row_slice {B : Nat} {l : List UInt8} {v : Value} {w : World} (h : Row B l v w) : ∃ A c, v = .slice A l.length c := own_slice h

section
variable {ops : Array Oper} {rest : List Oper} {o : Oper} {a : Act} {Q : Exit → Act → World → Prop}
end
theorem row_string {B : Nat} {l : List UInt8} {v : Value} {w : World} (h : Row B l v w) : (convert 92 9 v).run Tryd.prog w = .ok (.string ⟨l.toArray⟩) w := by
  have := own_string (P := Tryd.prog) (src := 92) (dst := 9) (xs := intsOf l) Tryd.underlying92 Tryd.underlying5 Tryd.underlying9 (by rw [nums_ints]; exact h)
  rw [this]
  have e : strOfNums (intsOf l) = ⟨l.toArray⟩ := by
    apply ByteArray.ext
    simp [strOfNums, intsOf, Function.comp_def]
  rw [e]
end Go.Proofs.YtnmhoghmhglimaaDoor.H
/-
  PLAIN: what sqlx's compileNamedQuery comes to, byte by byte; the parts of a text (names, and what stands for itself), and what it comes to over these.
-/
namespace Go.Proofs.YtnmhoghmhglimaaDoor.H
open Go.RowKit
set_option linter.unusedVariables false
set_option linter.unusedSimpArgs false

/-- What zzAllowed says of a byte. -/
def okB (b : UInt8) : Bool := decide (97 ≤ b.toNat ∧ b.toNat ≤ 122 ∨ 65 ≤ b.toNat ∧ b.toNat ≤ 90 ∨ 48 ≤ b.toNat ∧ b.toNat ≤ 57 ∨ b.toNat = 170 ∨ b.toNat = 181 ∨ b.toNat = 186 ∨ 192 ≤ b.toNat ∧ b.toNat ≠ 215 ∧ b.toNat ≠ 247)
def nameB (b : UInt8) : Bool := okB b || b == 95 || b == 46
/-- A byte of names, ASCII. -/
def isNm (b : UInt8) : Bool := decide (97 ≤ b.toNat ∧ b.toNat ≤ 122 ∨ 65 ≤ b.toNat ∧ b.toNat ≤ 90 ∨ 48 ≤ b.toNat ∧ b.toNat ≤ 57 ∨ b.toNat = 95 ∨ b.toNat = 46)
def markC (kind : Int) (n : Nat) (nm : List UInt8) : List UInt8 := if kind = 3 then 58 :: nm else if kind = 2 then 36 :: Lib.itoa (n : Int) else if kind = 4 then 64 :: 112 :: Lib.itoa (n : Int) else [63]
/-- The rest of a text, in a name or not, the name so far, the names and the text so far: the names and the text; none: refused. -/
def runC (kind : Int) : List UInt8 → Bool → List UInt8 → List (List UInt8) → List UInt8 → Option (List (List UInt8) × List UInt8)
  | [], _, _, nms, out => some (nms, out)
  | b :: t, inN, nm, nms, out =>
    if b = 58 then (if inN = true then (if nm = [] then runC kind t false nm nms (out ++ [58]) else none) else runC kind t true [] nms out)
    else if inN = true then
      (if b = 61 ∧ nm = [] then runC kind t false nm nms (out ++ [58, 61])
      else if nameB b = true ∧ t ≠ [] then runC kind t true (nm ++ [b]) nms out
      else if t = [] ∧ okB b = true then runC kind t false (nm ++ [b]) (nms ++ [nm ++ [b]]) (out ++ markC kind (nms.length + 1) (nm ++ [b]))
      else runC kind t false nm (nms ++ [nm]) (out ++ markC kind (nms.length + 1) nm ++ [b]))
    else runC kind t false nm nms (out ++ [b])

theorem isNm_name {b : UInt8} (h : isNm b = true) : nameB b = true ∧ b ≠ 58 ∧ b ≠ 61 := by
  have h1 := of_decide_eq_true h
  refine ⟨?_, fun h => by subst h; simp at h1, fun h => by subst h; simp at h1⟩
  unfold nameB okB
  rw [Bool.or_eq_true, Bool.or_eq_true, decide_eq_true_eq, beq_iff_eq, beq_iff_eq]
  rcases h1 with h1 | h1 | h1 | h1 | h1
  · exact .inl (.inl (.inl h1))
  · exact .inl (.inl (.inr (.inl h1)))
  · exact .inl (.inl (.inr (.inr (.inl h1))))
  · exact .inl (.inr (UInt8.toNat_inj.1 h1))
  · exact .inr (UInt8.toNat_inj.1 h1)
theorem isNm_ok {b : UInt8} (h : isNm b = true) (h1 : b ≠ 95) (h2 : b ≠ 46) : okB b = true := by
  have h3 := (isNm_name h).1
  unfold nameB at h3
  rw [Bool.or_eq_true, Bool.or_eq_true, beq_iff_eq, beq_iff_eq] at h3
  rcases h3 with (h3 | h3) | h3
  · exact h3
  · exact absurd h3 h1
  · exact absurd h3 h2
theorem name_isNm {b : UInt8} (h : isNm b = false) (h1 : b.toNat < 128) : nameB b = false ∧ okB b = false := by
  have h2 := of_decide_eq_false h
  have h3 : okB b = false := by
    unfold okB
    rw [decide_eq_false_iff_not]
    omega
  refine ⟨?_, h3⟩
  unfold nameB
  rw [h3, Bool.false_or, Bool.or_eq_false_iff, beq_eq_false_iff_ne, beq_eq_false_iff_ne]
  constructor
  · rintro rfl
    simp at h2
  · rintro rfl
    simp at h2
theorem run_text (kind : Int) (nm : List UInt8) (nms : List (List UInt8)) : ∀ (pre rest out : List UInt8), (∀ c ∈ pre, c ≠ 58) → runC kind (pre ++ rest) false nm nms out = runC kind rest false nm nms (out ++ pre)
  | [], rest, out, h => by rw [List.append_nil]; rfl
  | c :: t, rest, out, h => by
    have h1 := List.forall_mem_cons.1 h
    rw [List.cons_append, runC, if_neg h1.1, if_neg (by decide), run_text kind nm nms t rest _ h1.2, List.append_assoc]
    rfl
theorem run_name (kind : Int) (nms : List (List UInt8)) (out : List UInt8) : ∀ (pre rest nm : List UInt8), (∀ c ∈ pre, isNm c = true) → rest ≠ [] → runC kind (pre ++ rest) true nm nms out = runC kind rest true (nm ++ pre) nms out
  | [], rest, nm, h, hr => by rw [List.append_nil]; rfl
  | c :: t, rest, nm, h, hr => by
    have h1 := List.forall_mem_cons.1 h
    have h2 := isNm_name h1.1
    rw [List.cons_append, runC, if_neg h2.2.1, if_pos rfl, if_neg (fun h => h2.2.2 h.1), if_pos ⟨h2.1, by simp [hr]⟩, run_name kind nms out t rest _ h1.2 hr, List.append_assoc]
    rfl
theorem run_end (kind : Int) (nm : List UInt8) (nms : List (List UInt8)) (out : List UInt8) (e : UInt8) (v : List UInt8) (h1 : e ≠ 58) (h2 : isNm e = false) (h3 : e.toNat < 128) (h4 : ¬(e = 61 ∧ nm = [])) :
    runC kind (e :: v) true nm nms out = runC kind (e :: v) false nm (nms ++ [nm]) (out ++ markC kind (nms.length + 1) nm) := by
  have h5 := name_isNm h2 h3
  rw [runC, if_neg h1, if_pos rfl, if_neg h4, if_neg (by rw [h5.1]; simp), if_neg (by rw [h5.2]; simp)]
  rw [runC, if_neg h1, if_neg (by decide)]
theorem run_last (kind : Int) (nm : List UInt8) (nms : List (List UInt8)) (out : List UInt8) (b : UInt8) (h : isNm b = true) (h1 : b ≠ 95) (h2 : b ≠ 46) :
    runC kind [b] true nm nms out = some (nms ++ [nm ++ [b]], out ++ markC kind (nms.length + 1) (nm ++ [b])) := by
  have h5 := isNm_name h
  rw [runC, if_neg h5.2.1, if_pos rfl, if_neg (fun h => h5.2.2 h.1), if_neg (by simp), if_pos ⟨rfl, isNm_ok h h1 h2⟩]
  rfl

/-- What parts come to: the names and the text. -/
def foldB (kind : Int) : List (Bool × List UInt8) → List (List UInt8) → List UInt8 → List (List UInt8) × List UInt8
  | [], nms, out => (nms, out)
  | (true, x) :: t, nms, out => foldB kind t (nms ++ [x]) (out ++ markC kind (nms.length + 1) x)
  | (false, x) :: t, nms, out => foldB kind t nms (out ++ x)
/-- The parts of a text, f at most: behind acc; not refused; sure. -/
def bitsF : Nat → List UInt8 → Bool → List (Bool × List UInt8) → List (Bool × List UInt8) × Bool × Bool
  | 0, _, sure, acc => (acc, true, sure)
  | f + 1, [], sure, acc => (acc, true, sure)
  | f + 1, c :: t, sure, acc => if c = 58 then (match t with
      | [] => (acc, true, false)
      | d :: u => if d = 58 then bitsF f u sure (acc ++ [(false, [58])])
        else if d = 61 then bitsF f u (sure && !u.isEmpty) (acc ++ [(false, [58, 61])])
        else match (d :: u).dropWhile isNm with
          | [] => (acc ++ [(true, (d :: u).takeWhile isNm)], true, sure && ((d :: u).getLast? != some 95 && (d :: u).getLast? != some 46))
          | e :: v => if e = 58 then ([], false, sure) else bitsF f (e :: v) (if 128 ≤ e.toNat then false else if (d :: u).takeWhile isNm = [] ∧ v = [] then false else sure) (acc ++ [(true, (d :: u).takeWhile isNm)]))
      else bitsF f ((c :: t).dropWhile (· != 58)) sure (acc ++ [(false, (c :: t).takeWhile (· != 58))])

theorem tw_all (p : UInt8 → Bool) (l : List UInt8) : ∀ c ∈ l.takeWhile p, p c = true := fun c h => List.all_eq_true.1 (List.all_takeWhile) c h
theorem dw_head (p : UInt8 → Bool) : ∀ (l : List UInt8) (e : UInt8) (v : List UInt8), l.dropWhile p = e :: v → p e = false
  | c :: t, e, v, h => by
    rw [List.dropWhile_cons] at h
    by_cases hc : p c = true
    · rw [if_pos hc] at h
      exact dw_head p t e v h
    · rw [if_neg hc] at h
      injection h with h1 _
      rw [← h1]
      exact Bool.eq_false_iff.2 hc
theorem sure_stays : ∀ (f : Nat) (l : List UInt8) (acc : List (Bool × List UInt8)), (bitsF f l false acc).2.2 = false
  | 0, _, _ => rfl
  | f + 1, [], acc => rfl
  | f + 1, c :: t, acc => by
    rw [bitsF.eq_def]
    simp only []
    split
    · split
      · rfl
      · split
        · exact sure_stays f _ _
        · split
          · exact sure_stays f _ _
          · split
            · rfl
            · split
              · rfl
              · split
                · exact sure_stays f _ _
                · split
                  · exact sure_stays f _ _
                  · exact sure_stays f _ _
    · exact sure_stays f _ _
theorem run_bits : ∀ (f : Nat) (l : List UInt8) (sure : Bool) (acc : List (Bool × List UInt8)), l.length ≤ f → (bitsF f l sure acc).2.2 = true →
    ((bitsF f l sure acc).2.1 = true ∧ ∃ more, (bitsF f l sure acc).1 = acc ++ more ∧ ∀ kind nm nms out, runC kind l false nm nms out = some (foldB kind more nms out)) ∨
    ((bitsF f l sure acc).2.1 = false ∧ (bitsF f l sure acc).1 = [] ∧ ∀ kind nm nms out, runC kind l false nm nms out = none)
  | 0, l, sure, acc, hf, hs => by
    obtain rfl := List.length_eq_zero_iff.1 (Nat.le_zero.1 hf)
    exact .inl ⟨rfl, [], by rw [List.append_nil]; rfl, fun _ _ _ _ => rfl⟩
  | f + 1, [], sure, acc, hf, hs => .inl ⟨rfl, [], by rw [List.append_nil]; rfl, fun _ _ _ _ => rfl⟩
  | f + 1, c :: t, sure, acc, hf, hs => by
    have hst : ∀ (b : Bool) (m : List UInt8) (a : List (Bool × List UInt8)), (bitsF f m b a).2.2 = true → b = true := by
      intro b m a h
      cases b
      · rw [sure_stays] at h
        cases h
      · rfl
    rw [bitsF.eq_def] at hs ⊢
    simp only [] at hs ⊢
    · by_cases hc : c = 58
      · subst hc
        simp only [if_true] at hs ⊢
        split at hs
        · cases hs
        · rename_i d u
          by_cases hd : d = 58
          · subst hd
            simp only [if_true] at hs ⊢
            rcases run_bits f u sure _ (by simp at hf; omega) hs with ⟨h1, more, h2, h3⟩ | ⟨h1, h2, h3⟩
            · refine .inl ⟨h1, (false, [58]) :: more, by rw [h2, List.append_assoc]; rfl, fun kind nm nms out => ?_⟩
              rw [runC, if_pos rfl, if_neg (by decide), runC, if_pos rfl, if_pos rfl, if_pos rfl, h3]
              rfl
            · refine .inr ⟨h1, h2, fun kind nm nms out => ?_⟩
              rw [runC, if_pos rfl, if_neg (by decide), runC, if_pos rfl, if_pos rfl, if_pos rfl, h3]
          · rw [if_neg hd] at hs ⊢
            by_cases hd2 : d = 61
            · subst hd2
              rw [if_pos rfl] at hs ⊢
              rcases run_bits f u _ _ (by simp at hf; omega) hs with ⟨h1, more, h2, h3⟩ | ⟨h1, h2, h3⟩
              · refine .inl ⟨h1, (false, [58, 61]) :: more, by rw [h2, List.append_assoc]; rfl, fun kind nm nms out => ?_⟩
                rw [runC, if_pos rfl, if_neg (by decide), runC, if_neg (by decide), if_pos rfl, if_pos ⟨rfl, rfl⟩, h3]
                rfl
              · refine .inr ⟨h1, h2, fun kind nm nms out => ?_⟩
                rw [runC, if_pos rfl, if_neg (by decide), runC, if_neg (by decide), if_pos rfl, if_pos ⟨rfl, rfl⟩, h3]
            · rw [if_neg hd2] at hs ⊢
              have htd := List.takeWhile_append_dropWhile (p := isNm) (l := d :: u)
              have hta := tw_all isNm (d :: u)
              split at hs
              · rename_i hdw
                rw [hdw, List.append_nil] at htd
                rw [Bool.and_eq_true, Bool.and_eq_true, bne_iff_ne, bne_iff_ne] at hs
                obtain ⟨_, hl1, hl2⟩ := hs
                refine .inl ⟨rfl, [(true, d :: u)], by rw [htd], fun kind nm nms out => ?_⟩
                rw [htd] at hta
                rw [runC, if_pos rfl, if_neg (by decide)]
                have hne : (d :: u) ≠ [] := by simp
                have hsp := List.dropLast_concat_getLast hne
                rw [List.getLast?_eq_some_getLast hne] at hl1 hl2
                have hb := hta _ (List.getLast_mem hne)
                rw [← hsp, run_name kind nms out _ _ [] (fun c hc => hta c (List.dropLast_subset _ hc)) (by simp), List.nil_append, run_last kind _ nms out _ hb (fun h => hl1 (by rw [h])) (fun h => hl2 (by rw [h]))]
                rfl
              · rename_i e v hdw
                have he := dw_head isNm _ e v hdw
                rw [hdw] at htd
                by_cases he2 : e = 58
                · subst he2
                  rw [if_pos rfl] at hs ⊢
                  refine .inr ⟨rfl, rfl, fun kind nm nms out => ?_⟩
                  rw [runC, if_pos rfl, if_neg (by decide), ← htd, run_name kind nms out _ _ [] hta (by simp), List.nil_append, runC, if_pos rfl, if_pos rfl, if_neg]
                  intro h
                  rw [h] at htd
                  injection htd with h1 _
                  exact hd h1.symm
                · rw [if_neg he2] at hs ⊢
                  have hsu := hst _ _ _ hs
                  have h128 : ¬ 128 ≤ e.toNat := by
                    intro h
                    rw [if_pos h] at hsu
                    cases hsu
                  have hlen := congrArg List.length htd
                  rw [List.length_append] at hlen
                  have hlen2 : (e :: v).length ≤ f := by
                    simp only [List.length_cons] at hlen hf ⊢
                    omega
                  have hstep : ∀ kind nm nms out, runC kind (58 :: d :: u) false nm nms out = runC kind (e :: v) false ((d :: u).takeWhile isNm) (nms ++ [(d :: u).takeWhile isNm]) (out ++ markC kind (nms.length + 1) ((d :: u).takeWhile isNm)) := by
                    intro kind nm nms out
                    rw [runC, if_pos rfl, if_neg (by decide)]
                    conv => lhs; rw [← htd]
                    rw [run_name kind nms out _ _ [] hta (by simp), List.nil_append, run_end kind _ nms out e v he2 he (by omega)]
                    rintro ⟨h1, h2⟩
                    rw [h2] at htd
                    injection htd with h3 _
                    exact hd2 (h3.symm.trans h1)
                  rcases run_bits f (e :: v) _ _ hlen2 hs with ⟨h1, more, h2, h3⟩ | ⟨h1, h2, h3⟩
                  · refine .inl ⟨h1, (true, (d :: u).takeWhile isNm) :: more, by rw [h2, List.append_assoc]; rfl, fun kind nm nms out => ?_⟩
                    rw [hstep, h3]
                    rfl
                  · exact .inr ⟨h1, h2, fun kind nm nms out => by rw [hstep, h3]⟩
      · rw [if_neg hc] at hs ⊢
        have htd := List.takeWhile_append_dropWhile (p := (· != (58 : UInt8))) (l := c :: t)
        have hta := tw_all (· != (58 : UInt8)) (c :: t)
        have hlen : ((c :: t).dropWhile (· != (58 : UInt8))).length ≤ f := by
          rw [List.dropWhile_cons, if_pos (bne_iff_ne.2 hc)]
          exact Nat.le_trans (List.dropWhile_sublist _).length_le (by simp at hf; exact hf)
        have hstep : ∀ kind nm nms out, runC kind (c :: t) false nm nms out = runC kind ((c :: t).dropWhile (· != 58)) false nm nms (out ++ (c :: t).takeWhile (· != 58)) := by
          intro kind nm nms out
          conv => lhs; rw [← htd]
          exact run_text kind nm nms _ _ out (fun c hc => bne_iff_ne.1 (hta c hc))
        rcases run_bits f _ sure _ hlen hs with ⟨h1, more, h2, h3⟩ | ⟨h1, h2, h3⟩
        · refine .inl ⟨h1, (false, (c :: t).takeWhile (· != 58)) :: more, by rw [h2, List.append_assoc]; rfl, fun kind nm nms out => ?_⟩
          rw [hstep, h3]
          rfl
        · exact .inr ⟨h1, h2, fun kind nm nms out => by rw [hstep, h3]⟩

/-- The names among parts, and the text that they come to, n names ahead. -/
def nB : List (Bool × List UInt8) → List (List UInt8)
  | [] => []
  | (true, x) :: t => x :: nB t
  | (false, _) :: t => nB t
def tB (kind : Int) : List (Bool × List UInt8) → Nat → List UInt8
  | [], _ => []
  | (true, x) :: t, n => markC kind (n + 1) x ++ tB kind t (n + 1)
  | (false, x) :: t, n => x ++ tB kind t n
/-- Parts as they are written. -/
def flatB : List (Bool × List UInt8) → List UInt8
  | [] => []
  | (true, x) :: t => 58 :: (x ++ flatB t)
  | (false, x) :: t => x ++ flatB t
theorem foldB_is (kind : Int) : ∀ (l : List (Bool × List UInt8)) (nms : List (List UInt8)) (out : List UInt8), foldB kind l nms out = (nms ++ nB l, out ++ tB kind l nms.length)
  | [], nms, out => by simp [foldB, nB, tB]
  | (true, x) :: t, nms, out => by
    rw [foldB, foldB_is kind t]
    simp [nB, tB]
  | (false, x) :: t, nms, out => by
    rw [foldB, foldB_is kind t]
    simp [nB, tB]
/-- No two colons side by side. -/
def one58 : List UInt8 → Bool
  | [] => true
  | [_] => true
  | a :: b :: t => !(a == 58 && b == 58) && one58 (b :: t)
theorem one58_tail {a : UInt8} {t : List UInt8} (h : one58 (a :: t) = true) : one58 t = true := by
  cases t with
  | nil => rfl
  | cons b t =>
    rw [one58, Bool.and_eq_true] at h
    exact h.2
theorem one58_drop : ∀ (a b : List UInt8), one58 (a ++ b) = true → one58 b = true
  | [], b, h => h
  | c :: t, b, h => one58_drop t b (one58_tail h)
theorem bits_all : ∀ (f : Nat) (l : List UInt8) (sure : Bool) (acc : List (Bool × List UInt8)), l.length ≤ f → (bitsF f l sure acc).2.2 = true → (bitsF f l sure acc).2.1 = true →
    ∃ more, (bitsF f l sure acc).1 = acc ++ more ∧ (∀ p ∈ more, ∀ c ∈ p.2, c ∈ l) ∧ (one58 l = true → flatB more = l)
  | 0, l, sure, acc, hf, hs, ho => by
    obtain rfl := List.length_eq_zero_iff.1 (Nat.le_zero.1 hf)
    exact ⟨[], by rw [List.append_nil]; rfl, by simp, fun _ => rfl⟩
  | f + 1, [], sure, acc, hf, hs, ho => ⟨[], by rw [List.append_nil]; rfl, by simp, fun _ => rfl⟩
  | f + 1, c :: t, sure, acc, hf, hs, ho => by
    have hst : ∀ (b : Bool) (m : List UInt8) (a : List (Bool × List UInt8)), (bitsF f m b a).2.2 = true → b = true := by
      intro b m a h
      cases b
      · rw [sure_stays] at h
        cases h
      · rfl
    rw [bitsF.eq_def] at hs ho ⊢
    simp only [] at hs ho ⊢
    by_cases hc : c = 58
    · subst hc
      simp only [if_true] at hs ho ⊢
      split at hs
      · cases hs
      · rename_i d u
        simp only [] at ho
        by_cases hd : d = 58
        · subst hd
          simp only [if_true] at hs ho ⊢
          obtain ⟨more, h2, h3, h4⟩ := bits_all f u sure _ (by simp at hf; omega) hs ho
          refine ⟨(false, [58]) :: more, by rw [h2, List.append_assoc]; rfl, ?_, ?_⟩
          · intro p hp c hc
            rcases List.mem_cons.1 hp with rfl | hp
            · rw [List.mem_singleton.1 hc]
              simp
            · exact List.mem_cons_of_mem _ (List.mem_cons_of_mem _ (h3 p hp c hc))
          · intro h
            simp [one58] at h
        · rw [if_neg hd] at hs ho ⊢
          by_cases hd2 : d = 61
          · subst hd2
            rw [if_pos rfl] at hs ho ⊢
            obtain ⟨more, h2, h3, h4⟩ := bits_all f u _ _ (by simp at hf; omega) hs ho
            refine ⟨(false, [58, 61]) :: more, by rw [h2, List.append_assoc]; rfl, ?_, ?_⟩
            · intro p hp c hc
              rcases List.mem_cons.1 hp with rfl | hp
              · rcases List.mem_cons.1 hc with rfl | hc
                · simp
                · rw [List.mem_singleton.1 hc]
                  simp
              · exact List.mem_cons_of_mem _ (List.mem_cons_of_mem _ (h3 p hp c hc))
            · intro h
              rw [flatB, h4 (one58_tail (one58_tail h))]
              rfl
          · rw [if_neg hd2] at hs ho ⊢
            have htd := List.takeWhile_append_dropWhile (p := isNm) (l := d :: u)
            split at hs
            · rename_i hdw
              rw [hdw, List.append_nil] at htd
              refine ⟨[(true, d :: u)], by rw [htd], ?_, ?_⟩
              · intro p hp c hc
                rw [List.mem_singleton.1 hp] at hc
                exact List.mem_cons_of_mem _ hc
              · intro h
                simp [flatB]
            · rename_i e v hdw
              rw [hdw] at htd ho
              simp only [] at ho
              by_cases he2 : e = 58
              · subst he2
                rw [if_pos rfl] at ho
                cases ho
              · rw [if_neg he2] at hs ho ⊢
                have hlen := congrArg List.length htd
                rw [List.length_append] at hlen
                have hlen2 : (e :: v).length ≤ f := by
                  simp only [List.length_cons] at hlen hf ⊢
                  omega
                obtain ⟨more, h2, h3, h4⟩ := bits_all f (e :: v) _ _ hlen2 hs ho
                have hin : ∀ c ∈ e :: v, c ∈ d :: u := fun c hc => by rw [← htd]; exact List.mem_append_right _ hc
                have hin2 : ∀ c ∈ (d :: u).takeWhile isNm, c ∈ d :: u := fun c hc => by rw [← htd]; exact List.mem_append_left _ hc
                refine ⟨(true, (d :: u).takeWhile isNm) :: more, by rw [h2, List.append_assoc]; rfl, ?_, ?_⟩
                · intro p hp c hc
                  rcases List.mem_cons.1 hp with rfl | hp
                  · exact List.mem_cons_of_mem _ (hin2 c hc)
                  · exact List.mem_cons_of_mem _ (hin c (h3 p hp c hc))
                · intro h
                  have h5 := one58_tail h
                  rw [← htd] at h5
                  rw [flatB, h4 (one58_drop _ _ h5), htd]
    · rw [if_neg hc] at hs ho ⊢
      have htd := List.takeWhile_append_dropWhile (p := (· != (58 : UInt8))) (l := c :: t)
      have hlen : ((c :: t).dropWhile (· != (58 : UInt8))).length ≤ f := by
        rw [List.dropWhile_cons, if_pos (bne_iff_ne.2 hc)]
        exact Nat.le_trans (List.dropWhile_sublist _).length_le (by simp at hf; exact hf)
      obtain ⟨more, h2, h3, h4⟩ := bits_all f _ sure _ hlen hs ho
      refine ⟨(false, (c :: t).takeWhile (· != 58)) :: more, by rw [h2, List.append_assoc]; rfl, ?_, ?_⟩
      · intro p hp c hc
        rcases List.mem_cons.1 hp with rfl | hp
        · rw [← htd]
          exact List.mem_append_left _ hc
        · rw [← htd]
          exact List.mem_append_right _ (h3 p hp c hc)
      · intro h
        rw [← htd] at h
        rw [flatB, h4 (one58_drop _ _ h), htd]
/-- A text that is written of names and texts. -/
def wroteL : List (List UInt8 × List UInt8) → List UInt8
  | [] => []
  | (n, x) :: t => 58 :: (n ++ (x ++ wroteL t))
def wantL (kind : Int) : List (List UInt8 × List UInt8) → Nat → List UInt8
  | [], _ => []
  | (n, x) :: t, i => markC kind (i + 1) n ++ (x ++ wantL kind t (i + 1))
def IsGapL (x : List UInt8) : Prop := ∃ e v, x = e :: v ∧ isNm e = false ∧ e.toNat < 128 ∧ ∀ c ∈ x, c ≠ 58
end Go.Proofs.YtnmhoghmhglimaaDoor.H
/-
  A CONTRACT: sqlx's findMatchingClosingBracketIndex, which ranges over a string rune by rune, comes to the place that a plain search over its bytes finds (texts of at most 2^20 bytes).
-/
namespace Go.Proofs.YtnmhoghmhglimaaDoor.H
open Go.RowKit Go.Proofs.YtnmhoghmhglimaaDoorW.PrintWords
set_option linter.unusedVariables false
set_option linter.unusedSimpArgs false

/-- The search, byte by byte: f: rounds left, i: the place, c: brackets that are open. -/
def findC (s : ByteArray) : Nat → Nat → Int → Int
  | 0, _, _ => 0
  | f + 1, i, c => if i < s.size then (if bt s i = 40 then findC s f (i + 1) (c + 1) else if bt s i = 41 then (if c - 1 = 0 then (i : Int) else findC s f (i + 1) (c - 1)) else findC s f (i + 1) c) else 0
def sqlx_findMatchingClosingBracketIndex.f (a0 : ByteArray) : Option (Int) := if a0.size ≤ 1048576 then some (findC a0 a0.size 0 0) else none

end Go.Proofs.YtnmhoghmhglimaaDoor.H
/-
  PLAIN WORDS over a text's bytes: white space, a letter in any case, a word; what sqlx's zzSpace and zzFold come to (texts of at most 2^20 bytes).
-/
namespace Go.Proofs.YtnmhoghmhglimaaDoor.H
open Go.RowKit Go.Proofs.YtnmhoghmhglimaaDoorW.PrintWords Go.Proofs.YtnmhoghmhglimaaDoorW.PrintLast Go.Proofs.YtnmhoghmhglimaaDoorW.PrintMore Go.Proofs.YtnmhoghmhglimaaDoor.QL
set_option linter.unusedVariables false
set_option linter.unusedSimpArgs false

theorem w64 (x : Int) (h : -1099511627776 ≤ x ∧ x ≤ 1099511627776) : wrap64 x = x := IntWalk.wrap64_in x (by omega)
def isSp (b : Int) : Bool := decide (b = 32 ∨ b = 9 ∨ b = 10 ∨ b = 12 ∨ b = 13)
/-- The place behind white space, f rounds at most. -/
def spN (s : ByteArray) : Nat → Nat → Nat
  | 0, i => i
  | f + 1, i => if i < s.size then (if isSp (bt s i) = true then spN s f (i + 1) else i) else i
def spc (s : ByteArray) (i : Nat) : Nat := spN s (s.size - i) i
/-- How many bytes at place i are the letter c in any case (s: the long one, too). -/
def foldN (s : ByteArray) (i : Nat) (c : Int) : Nat :=
  if i < s.size ∧ (bt s i = c ∨ bt s i = c - 32) then 1 else if c = 115 ∧ i + 1 < s.size ∧ bt s i = 197 ∧ bt s ((i + 1 : Nat) : Int) = 191 then 2 else 0
/-- The place behind a word; none where it does not stand there. -/
def wordN (s : ByteArray) : List Int → Nat → Option Nat
  | [], p => some p
  | c :: cs, p => if foldN s p c = 0 then none else wordN s cs (p + foldN s p c)

end Go.Proofs.YtnmhoghmhglimaaDoor.H
/-
  A CONTRACT: sqlx's zzValues comes to the first closing bracket, VALUES in any case and opening bracket, with white space between or none (texts of at most 2^20 bytes).
-/
namespace Go.Proofs.YtnmhoghmhglimaaDoor.H
open Go.RowKit Go.Proofs.YtnmhoghmhglimaaDoorW.PrintWords Go.Proofs.YtnmhoghmhglimaaDoorW.PrintLast Go.Proofs.YtnmhoghmhglimaaDoorW.PrintMore Go.Proofs.YtnmhoghmhglimaaDoor.QL
set_option linter.unusedVariables false
set_option linter.unusedSimpArgs false

def word_values : List Int := [118, 97, 108, 117, 101, 115]
/-- The search from place i on, f rounds at most: nothing, or where it begins and ends. -/
def valN (s : ByteArray) : Nat → Nat → List Int
  | 0, _ => []
  | f + 1, i => if bt s i = 41 then (match wordN s word_values (spc s (i + 1)) with
      | none => valN s f (i + 1)
      | some p => if ((spc s p : Nat) : Int) < (s.size : Int) ∧ bt s ((spc s p : Nat) : Int) = 40 then [(i : Int), ((spc s p : Nat) : Int) + 1] else valN s f (i + 1)) else valN s f (i + 1)
def sqlx_zzValues.f (a0 : ByteArray) : Option (List Int) := if a0.size ≤ 1048576 then some (valN a0 a0.size 0) else none
def vtext : ByteArray := ⟨#[118, 97, 108, 117, 101, 115]⟩
/-- The word's letter j, as the range over it gives it. -/
theorem letter (j : Nat) (h : j < 6) : ∃ (c : Nat) (hj : j < vtext.size), 97 ≤ c ∧ c ≤ 122 ∧ (vtext[j]'hj).toNat = c ∧ word_values.drop j = (c : Int) :: word_values.drop (j + 1) := by
  have hz : vtext.size = 6 := rfl
  have : j = 0 ∨ j = 1 ∨ j = 2 ∨ j = 3 ∨ j = 4 ∨ j = 5 := by omega
  rcases this with rfl | rfl | rfl | rfl | rfl | rfl
  · exact ⟨118, by omega, by omega, by omega, rfl, rfl⟩
  · exact ⟨97, by omega, by omega, by omega, rfl, rfl⟩
  · exact ⟨108, by omega, by omega, by omega, rfl, rfl⟩
  · exact ⟨117, by omega, by omega, by omega, rfl, rfl⟩
  · exact ⟨101, by omega, by omega, by omega, rfl, rfl⟩
  · exact ⟨115, by omega, by omega, by omega, rfl, rfl⟩
def ValsPost (r : List Int) (w : World) (e : Ending) (w' : World) : Prop := ∃ v0_ : Value, e = .returned v0_ ∧ Kd.R (Kd.int .i64) 3 w' w.heap.size (fun _ => True) v0_ r ∧ Below w.heap.size w w'
/-- The outer loop's relation at place x: g rounds left. -/
def ValRel (a0 : ByteArray) (r : List Int) (g : Nat) (x : Int) : Prop := 0 ≤ x ∧ x + g = a0.size ∧ valN a0 g x.toNat = r
def WordRel (a0 : ByteArray) (W : Option Nat) (g : Nat) (p : Int) : Prop := g ≤ 6 ∧ 0 ≤ p ∧ p ≤ a0.size ∧ wordN a0 (word_values.drop (6 - g)) p.toNat = W

end Go.Proofs.YtnmhoghmhglimaaDoor.H
/-
  A CONTRACT: sqlx's fixBound writes the bracket behind VALUES so many times, with commas between (texts of at most 2^20 bytes, at most 2^20 times), by the shelf's contracts of bytes.Buffer.
-/
namespace Go.Proofs.YtnmhoghmhglimaaDoor.H
open Go.RowKit Go.Proofs.YtnmhoghmhglimaaDoorW.PrintWords Go.Proofs.YtnmhoghmhglimaaDoorW.PrintLast Go.Proofs.YtnmhoghmhglimaaDoorW.PrintMore Go.Proofs.YtnmhoghmhglimaaDoor.QL
set_option linter.unusedVariables false
set_option linter.unusedSimpArgs false

/-- A comma and a part, so many times. -/
def cyc (p : List UInt8) : Nat → List UInt8
  | 0 => []
  | n + 1 => cyc p n ++ (44 :: p)
/-- The text whose bracket from o up to c stands k times more. -/
def fixL (s : ByteArray) (o c k : Nat) : ByteArray := ⟨(s.data.toList.take c ++ cyc ((s.data.toList.take c).drop o) k ++ s.data.toList.drop c).toArray⟩
def tailOf (s : ByteArray) (o : Nat) : ByteArray := s.extract o s.size
/-- Where the bracket at o closes, counted from o. -/
def idxOf (s : ByteArray) (o : Nat) : Int := findC (tailOf s o) (tailOf s o).size 0 0
def fixF (s : ByteArray) (n : Int) : ByteArray := match valN s s.size 0 with
  | [_, y] => if idxOf s (y - 1).toNat = 0 then s else fixL s (y - 1).toNat ((y - 1).toNat + (idxOf s (y - 1).toNat).toNat + 1) (n - 1).toNat
  | _ => s
def sqlx_fixBound.f (a0 : ByteArray) (a1 : Int) : Option ByteArray := if a0.size ≤ 1048576 ∧ 0 ≤ a1 ∧ a1 ≤ 1048576 then some (fixF a0 a1) else none

/-- The loop's state: g rounds left of n, place x: so many parts behind the first text. -/
def FxRel (s : ByteArray) (y c B n : Nat) (g : Nat) (x : Int) (w' : World) : Prop := 0 ≤ x ∧ x + g = n ∧ B ≤ w'.heap.size ∧ Buf B B ((s.extract 0 c).data.toList ++ cyc (s.extract y c).data.toList x.toNat) w'

end Go.Proofs.YtnmhoghmhglimaaDoor.H
/-
  PLAIN: the place of the first question mark, as zzIndex finds it (texts of at most 2^20 bytes).
-/
namespace Go.Proofs.YtnmhoghmhglimaaDoor.H
open Go.RowKit Go.Proofs.YtnmhoghmhglimaaDoorW.PrintWords Go.Proofs.YtnmhoghmhglimaaDoorW.PrintLast Go.Proofs.YtnmhoghmhglimaaDoorW.PrintMore Go.Proofs.YtnmhoghmhglimaaDoor.QL
set_option linter.unusedVariables false

def ixF : List UInt8 → Nat → Int
  | [], _ => -1
  | c :: t, i => if c = 63 then (i : Int) else ixF t (i + 1)
def ixI (q : ByteArray) : Int := ixF q.data.toList 0
end Go.Proofs.YtnmhoghmhglimaaDoor.H
/-
  A CONTRACT: sqlx's Rebind writes a kind's marks with numbers for question marks (texts of at most 2^20 bytes; a world in which strconv's table lies).
-/
namespace Go.Proofs.YtnmhoghmhglimaaDoor.H
open Go.RowKit Go.Proofs.YtnmhoghmhglimaaDoorW.PrintWords Go.Proofs.YtnmhoghmhglimaaDoorW.PrintLast Go.Proofs.YtnmhoghmhglimaaDoorW.PrintMore Go.Proofs.YtnmhoghmhglimaaDoor.QL
set_option linter.unusedVariables false
set_option linter.unusedSimpArgs false

def markB (kind : Int) : List UInt8 := if kind = 2 then [36] else if kind = 3 then [58, 97, 114, 103] else if kind = 4 then [64, 112] else []
def rebL (kind : Int) : Nat → List UInt8 → List UInt8
  | _, [] => []
  | n, c :: t => if c = 63 then markB kind ++ Lib.itoa ((n + 1 : Nat) : Int) ++ rebL kind (n + 1) t else c :: rebL kind n t
theorem rebL_pre (kind : Int) (n : Nat) : ∀ (pre rest : List UInt8), (∀ c ∈ pre, c ≠ 63) → rebL kind n (pre ++ rest) = pre ++ rebL kind n rest
  | [], rest, h => rfl
  | c :: t, rest, h => by
    have h1 := List.forall_mem_cons.1 h
    rw [List.cons_append, rebL, if_neg h1.1, rebL_pre kind n t rest h1.2]
    rfl
def sqlx_Rebind.f (a0 : Int) (a1 : ByteArray) : Option ByteArray := if a1.size ≤ 1048576 then some (if a0 = 1 ∨ a0 = 0 then a1 else ⟨(rebL a0 0 a1.data.toList).toArray⟩) else none
/-- The loop's state: at most g bytes are left. -/
def RbRel (kind : Int) (s : ByteArray) (B : Nat) (R : List UInt8) (g : Nat) (q : ByteArray) (v : Value) (j : Int) (w' : World) : Prop :=
  q.size ≤ g ∧ 0 ≤ j ∧ j + q.size ≤ s.size ∧ ∃ acc : List UInt8, Row B acc v w' ∧ acc ++ rebL kind j.toNat q.data.toList = R ∧ acc.length + 30 * q.size ≤ 30 * s.size

end Go.Proofs.YtnmhoghmhglimaaDoor.H
/-
  CONTRACTS over three rows of the call's own side by side: two of bytes, and one of texts; each grows, and the others stay.
-/
namespace Go.Proofs.YtnmhoghmhglimaaDoor.H
open Go.RowKit Go.Proofs.YtnmhoghmhglimaaDoorW.PrintWords
set_option linter.unusedVariables false

theorem own_below {B : Nat} {e : TypeId} {k : Nat} {v : Value} {n : Nat} {xs : List Value} {w w' : World} (h : w.ownsRow B e k v n xs) (hb : Below w.heap.size w w') : w'.ownsRow B e k v n xs := by
  refine ⟨h.1, ?_⟩
  rcases h.2 with hn | ⟨g, cap, cur, rfl, hB, hg, rest⟩
  · exact .inl hn
  · exact .inr ⟨g, cap, cur, rfl, hB, (hb.block g (Array.getElem?_eq_some_iff.1 hg).1).trans hg, rest⟩
theorem own_iterAt {B : Nat} {e : TypeId} {z : Nat} {v : Value} {n : Nat} {xs : List Value} {w : World} (h : w.ownsRow B e z v n xs) {k : Nat} {s : ByteArray} {p : Nat} (hk : w.heap[k]? = some (.stringIter s p)) (p' : Nat) : (w.iterAt k s p').ownsRow B e z v n xs := by
  refine ⟨h.1, ?_⟩
  rcases h.2 with hn | ⟨g, cap, cur, rfl, hB, hg, rest⟩
  · exact .inl hn
  · refine .inr ⟨g, cap, cur, rfl, hB, (Lib.iterAt_other w k g s p' ?_).trans hg, rest⟩
    rintro rfl
    rw [hk] at hg
    cases hg
/-- Texts, as cells. -/
def txCells (l : List (List UInt8)) : List Value := l.map fun x => .string ⟨x.toArray⟩
/-- v is a row of the call's own that holds these texts. -/
def SRow (B : Nat) (l : List (List UInt8)) (v : Value) (w : World) : Prop := w.ownsRow B 9 1 v l.length (txCells l)
def Apart (u v : Value) : Prop := u.ownBlock = none ∨ u.ownBlock ≠ v.ownBlock
theorem Apart.symm {u v : Value} (h : Apart u v) : Apart v u := by
  unfold Apart at *
  cases hv : v.ownBlock with
  | none => exact .inl rfl
  | some k =>
    refine .inr fun e => ?_
    rcases h with h | h
    · rw [h] at e
      cases e
    · exact h (by rw [hv]; exact e.symm)
theorem Apart.grown {u v v' : Value} {N : Nat} (h : Apart u v) (hu : ∀ k, u.ownBlock = some k → k < N) (hat : v'.ownBlock = v.ownBlock ∨ v'.ownBlock = some N) : Apart u v' := by
  unfold Apart at *
  rcases hat with e | e
  · rw [e]
    exact h
  · refine .inr fun e2 => ?_
    rw [e] at e2
    exact Nat.lt_irrefl _ (hu N e2)
structure Three (B : Nat) (vo vn vs : Value) (out nm : List UInt8) (nms : List (List UInt8)) (w : World) : Prop where
  o : Row B out vo w
  n : Row B nm vn w
  s : SRow B nms vs w
  on : Apart vo vn
  os : Apart vo vs
  ns : Apart vn vs
variable {B : Nat} {vo vn vs : Value} {out nm : List UInt8} {nms : List (List UInt8)}
theorem Three.below {w w' : World} (h : Three B vo vn vs out nm nms w) (hb : Below w.heap.size w w') : Three B vo vn vs out nm nms w' :=
  ⟨own_below h.o hb, own_below h.n hb, own_below h.s hb, h.on, h.os, h.ns⟩
theorem Three.alloc {w : World} (h : Three B vo vn vs out nm nms w) (o : Obj) : Three B vo vn vs out nm nms (w.alloc o) :=
  ⟨World.ownsRow.alloc h.o _, World.ownsRow.alloc h.n _, World.ownsRow.alloc h.s _, h.on, h.os, h.ns⟩
theorem Three.iterAt {w : World} (h : Three B vo vn vs out nm nms w) {k : Nat} {s : ByteArray} {p : Nat} (hk : w.heap[k]? = some (.stringIter s p)) (p' : Nat) : Three B vo vn vs out nm nms (w.iterAt k s p') :=
  ⟨own_iterAt h.o hk p', own_iterAt h.n hk p', own_iterAt h.s hk p', h.on, h.os, h.ns⟩
theorem Three.drewN {w : World} (h : Three B vo vn vs out nm nms w) (k : Nat) : Three B vo vn vs out nm nms (w.drewN k) := ⟨h.o, h.n, h.s, h.on, h.os, h.ns⟩
theorem Three.appOut {w w1 : World} (h : Three B vo vn vs out nm nms w) {vo' : Value} {out' : List UInt8} (hr : Row B out' vo' w1) (hg : w.grownBy w1 vo.ownBlock) (hat : vo'.ownBlock = vo.ownBlock ∨ vo'.ownBlock = some w.heap.size) : Three B vo' vn vs out' nm nms w1 :=
  ⟨hr, World.ownsRow.kept h.n hg h.on.symm, World.ownsRow.kept h.s hg h.os.symm, (h.on.symm.grown (fun k hk => (World.ownsRow.lt h.n k hk).2) hat).symm, (h.os.symm.grown (fun k hk => (World.ownsRow.lt h.s k hk).2) hat).symm, h.ns⟩
theorem Three.name {w w1 : World} (h : Three B vo vn vs out nm nms w) {vn' : Value} {nm' : List UInt8} (hr : Row B nm' vn' w1) (hg : w.grownBy w1 vn.ownBlock) (hat : vn'.ownBlock = vn.ownBlock ∨ vn'.ownBlock = some w.heap.size) : Three B vo vn' vs out nm' nms w1 :=
  ⟨World.ownsRow.kept h.o hg h.on, hr, World.ownsRow.kept h.s hg h.ns.symm, h.on.grown (fun k hk => (World.ownsRow.lt h.o k hk).2) hat, h.os, (h.ns.symm.grown (fun k hk => (World.ownsRow.lt h.s k hk).2) hat).symm⟩
theorem Three.names {w w1 : World} (h : Three B vo vn vs out nm nms w) {vs' : Value} {nms' : List (List UInt8)} (hr : SRow B nms' vs' w1) (hg : w.grownBy w1 vs.ownBlock) (hat : vs'.ownBlock = vs.ownBlock ∨ vs'.ownBlock = some w.heap.size) : Three B vo vn vs' out nm nms' w1 :=
  ⟨World.ownsRow.kept h.o hg h.os, World.ownsRow.kept h.n hg h.ns, hr, h.on, h.os.grown (fun k hk => (World.ownsRow.lt h.o k hk).2) hat, h.ns.grown (fun k hk => (World.ownsRow.lt h.n k hk).2) hat⟩
/-- A new empty name, laid in a block of its own. -/
theorem Three.fresh {w : World} (h : Three B vo vn vs out nm nms w) (hB : B ≤ w.heap.size) : Three B vo (.slice (some ⟨w.heap.size, 0, none⟩) 0 0) vs out [] nms (w.alloc (.cells #[] 5)) := by
  have hl : ∀ {u : Value}, (∀ k, u.ownBlock = some k → k < w.heap.size) → Apart u (.slice (some ⟨w.heap.size, 0, none⟩) 0 0) := by
    intro u hu
    refine .inr fun e => ?_
    exact Nat.lt_irrefl _ (hu _ (e.trans rfl))
  exact ⟨World.ownsRow.alloc h.o _, World.ownsRow_made w #[] 0 hB (by decide) rfl, World.ownsRow.alloc h.s _, hl (fun k hk => (World.ownsRow.lt h.o k hk).2), h.os, (hl (fun k hk => (World.ownsRow.lt h.s k hk).2)).symm⟩
theorem srow_info : (Tryd.prog.info? 9).map (fun i => (i.zero, i.size, i.bytes)) = some (some (.string ⟨#[]⟩), 1, 16) := by kernel_rfl
section
variable {ops : Array Oper} {rest : List Oper} {o : Oper} {a : Act} {Q : Exit → Act → World → Prop} {w0 W : World}
/-- Bytes behind a row: what it holds, and that nothing but its block is new. -/
theorem row_grow (hgd : o.guard = none) (s x : Operand) (ho : o.op = .call { callee := .builtin .append, args := #[s, x], argTypes := #[92, 92] })
    (v : Value) (l ys : List UInt8) (ad : Addr) (m c : Nat) (hm : ys.length = m) (hs : a.eval s = v) (hx : a.eval x = .slice (some ad) m c) (hn : ∀ j u, (Lib.byteCells ys)[j]? = some u → W.cell? (ad.add j) = some u)
    (HO : Row B l v W) (hbase : B ≤ W.heap.size) (hl : l.length + m ≤ 140737488355328)
    (h : ∀ v1 w1, Row B (l ++ ys) v1 w1 → W.grownBy w1 v.ownBlock → (v1.ownBlock = v.ownBlock ∨ v1.ownBlock = some W.heap.size) → wpList Tryd.prog ops Q rest (a.put o.dst v1) w1) :
    wpList Tryd.prog ops Q (o :: rest) a W := by
  subst hm
  obtain ⟨i0, hi, hz0, hz1, hz2⟩ := info_parts row_info
  have hlen : (Lib.byteCells ys).length = ys.length := Lib.byteCells_length ys
  refine wpList_append_own_at W hgd s x 92 ho B 5 i0 (.int .u8 0) 1 1 Tryd.underlying92 hi hz0 hz1 hz2 rfl (by decide) v l.length (Lib.byteCells l) hs HO ad ys.length c (Lib.byteCells ys) hx (by rw [hlen]; simp) hn (Lib.byteCells_one ys) (by simp only [maxLen]; omega) (by omega) hbase ?_
  intro v1 w1 hown hg _ hat
  refine h v1 w1 ?_ hg hat
  unfold Row
  rw [List.length_append, Lib.byteCells_append]
  exact hown
theorem make_bytes (w : World) (B : Nat) (hg : o.guard = none) (l c : Operand) (hop : o.op = Op.makeSlice 92 l c)
    (C : Int) (n : Nat) (hl : a.eval l = .int .i64 0) (hc : a.eval c = .int .i64 C) (hC : C = (n : Int)) (hn : n ≤ 281474976710656) (hB : B ≤ w.heap.size)
    (hK : ∀ w', w'.ownsRow B 5 1 (.slice (some ⟨w.heap.size, 0, none⟩) 0 n) 0 [] → w.grownBy w' none → wpList Tryd.prog ops Q rest (a.put o.dst (.slice (some ⟨w.heap.size, 0, none⟩) 0 n)) w') :
    wpList Tryd.prog ops Q (o :: rest) a w := by
  obtain ⟨i0, hi, hz0, hz1, hz2⟩ := info_parts row_info
  exact wpList_make_own w hg l c 92 hop B 5 i0 _ 1 Tryd.underlying92 hi hz0 hz1 .i64 .i64 C n hl hc hC (by rw [hz2]; omega) (by simp only [maxLen]; omega) hB hK
theorem make_texts (w : World) (B : Nat) (hg : o.guard = none) (l c : Operand) (hop : o.op = Op.makeSlice 30 l c)
    (C : Int) (n : Nat) (hl : a.eval l = .int .i64 0) (hc : a.eval c = .int .i64 C) (hC : C = (n : Int)) (hn : n ≤ 1099511627776) (hB : B ≤ w.heap.size)
    (hK : ∀ w', w'.ownsRow B 9 1 (.slice (some ⟨w.heap.size, 0, none⟩) 0 n) 0 [] → w.grownBy w' none → wpList Tryd.prog ops Q rest (a.put o.dst (.slice (some ⟨w.heap.size, 0, none⟩) 0 n)) w') :
    wpList Tryd.prog ops Q (o :: rest) a w := by
  obtain ⟨i0, hi, hz0, hz1, hz2⟩ := info_parts srow_info
  exact wpList_make_own w hg l c 30 hop B 9 i0 _ 1 Tryd.underlying30 hi hz0 hz1 .i64 .i64 C n hl hc hC (by rw [hz2]; omega) (by simp only [maxLen]; omega) hB hK
theorem three_start {w w1 w2 w3 : World} {B n m k : Nat} (h1 : w1.ownsRow B 9 1 (.slice (some ⟨w.heap.size, 0, none⟩) 0 m) 0 []) (h2 : w2.ownsRow B 5 1 (.slice (some ⟨w1.heap.size, 0, none⟩) 0 n) 0 []) (h3 : w3.ownsRow B 5 1 (.slice (some ⟨w2.heap.size, 0, none⟩) 0 k) 0 [])
    (g2 : w1.grownBy w2 none) (g3 : w2.grownBy w3 none) : Three B (.slice (some ⟨w1.heap.size, 0, none⟩) 0 n) (.slice (some ⟨w2.heap.size, 0, none⟩) 0 k) (.slice (some ⟨w.heap.size, 0, none⟩) 0 m) [] [] [] w3 := by
  have l1 := (World.ownsRow.lt h1 w.heap.size rfl).2
  have l2 := (World.ownsRow.lt h2 w1.heap.size rfl).2
  have hl : ∀ {a b : Nat} {p q : Nat}, a ≠ b → Apart (.slice (some ⟨a, 0, none⟩) 0 p) (.slice (some ⟨b, 0, none⟩) 0 q) := fun {a b p q} h => .inr fun e => h (Option.some.inj e)
  exact ⟨World.ownsRow.kept h2 g3 (.inr (by simp [Value.ownBlock])), h3, World.ownsRow.kept (World.ownsRow.kept h1 g2 (.inr (by simp [Value.ownBlock]))) g3 (.inr (by simp [Value.ownBlock])), hl (by omega), hl (by omega), hl (by omega)⟩
theorem news_at (ys : List UInt8) : ∀ j u, (Lib.byteCells ys)[j]? = some u → (W.alloc (.cells (Lib.byteCells ys).toArray 5)).cell? ((⟨W.heap.size, 0, none⟩ : Addr).add j) = some u := by
  simpa using World.news_of_block (cs := (Lib.byteCells ys).toArray) (t := 5) (fr := (0, 0)) (heap_alloc_new W (.cells (Lib.byteCells ys).toArray 5))
theorem three_out (hgd : o.guard = none) (s x : Operand) (ho : o.op = .call { callee := .builtin .append, args := #[s, x], argTypes := #[92, 92] })
    (ys : List UInt8) (m : Nat) (hm : ys.length = m) (cs : Array Value) (hcs : cs = (Lib.byteCells ys).toArray) (hs : a.eval s = vo) (hx : a.eval x = .slice (some ⟨W.heap.size, 0, none⟩) m m)
    (H : Three B vo vn vs out nm nms W) (HB : Below B w0 W) (hbase : B ≤ W.heap.size) (hl : out.length + m ≤ 140737488355328)
    (h : ∀ v1 w1, Three B v1 vn vs (out ++ ys) nm nms w1 → Below B w0 w1 → (∀ k, W.heap.size ≥ k → (∀ c t z, W.heap[k]? ≠ some (.cells c t z)) → k < W.heap.size → w1.heap[k]? = W.heap[k]?) → wpList Tryd.prog ops Q rest (a.put o.dst v1) w1) :
    wpList Tryd.prog ops Q (o :: rest) a (W.alloc (.cells cs 5)) := by
  subst hcs
  refine row_grow hgd s x ho vo out ys ⟨W.heap.size, 0, none⟩ m m hm hs hx (news_at ys) (World.ownsRow.alloc H.o _) (by simp; omega) hl ?_
  intro v1 w1 h1 h2 h3
  refine h v1 w1 ((H.alloc _).appOut h1 h2 h3) ((HB.alloc hbase _).grown h2 (by simp; omega) (fun k hk => (World.ownsRow.lt H.o k hk).1)) ?_
  intro k _ hk hlt
  rw [h2.block k (by simp; omega), Below.heap_alloc _ _ _ hlt]
  intro e
  rcases H.o.2 with ⟨hv, _⟩ | ⟨g, cap, cur, hv, _, hg, _⟩
  · rw [hv] at e
    cases e
  · rw [hv] at e
    cases e
    exact hk _ _ _ hg
theorem three_name (hgd : o.guard = none) (s x : Operand) (ho : o.op = .call { callee := .builtin .append, args := #[s, x], argTypes := #[92, 92] })
    (c : UInt8) (ci : Int) (hci : ci = (c.toNat : Int)) (hs : a.eval s = vn) (hx : a.eval x = .slice (some ⟨W.heap.size, 0, none⟩) 1 1)
    (H : Three B vo vn vs out nm nms W) (HB : Below B w0 W) (hbase : B ≤ W.heap.size) (hl : nm.length + 1 ≤ 140737488355328)
    (h : ∀ v1 w1, Three B vo v1 vs out (nm ++ [c]) nms w1 → Below B w0 w1 → wpList Tryd.prog ops Q rest (a.put o.dst v1) w1) :
    wpList Tryd.prog ops Q (o :: rest) a (W.alloc (.cells #[.int .u8 ci] 5)) := by
  subst hci
  refine row_grow hgd s x ho vn nm [c] ⟨W.heap.size, 0, none⟩ 1 1 rfl hs hx (news_at [c]) (World.ownsRow.alloc H.n _) (by simp; omega) hl ?_
  intro v1 w1 h1 h2 h3
  exact h v1 w1 ((H.alloc _).name h1 h2 h3) ((HB.alloc hbase _).grown h2 (by simp; omega) (fun k hk => (World.ownsRow.lt H.n k hk).1))
theorem three_names (hgd : o.guard = none) (s x : Operand) (ho : o.op = .call { callee := .builtin .append, args := #[s, x], argTypes := #[30, 30] })
    (y : List UInt8) (ys : ByteArray) (hy : ys = ⟨y.toArray⟩) (hs : a.eval s = vs) (hx : a.eval x = .slice (some ⟨W.heap.size, 0, none⟩) 1 1)
    (H : Three B vo vn vs out nm nms W) (HB : Below B w0 W) (hbase : B ≤ W.heap.size) (hl : nms.length + 1 ≤ 1099511627776)
    (h : ∀ v1 w1, Three B vo vn v1 out nm (nms ++ [y]) w1 → Below B w0 w1 → wpList Tryd.prog ops Q rest (a.put o.dst v1) w1) :
    wpList Tryd.prog ops Q (o :: rest) a (W.alloc (.cells #[.string ys] 9)) := by
  subst hy
  obtain ⟨i0, hi, hz0, hz1, hz2⟩ := info_parts srow_info
  refine wpList_append_own_at (W.alloc (.cells #[.string ⟨y.toArray⟩] 9)) hgd s x 30 ho B 9 i0 _ 1 16 Tryd.underlying30 hi hz0 hz1 hz2 rfl (by decide) vs nms.length (txCells nms) hs (World.ownsRow.alloc H.s _) ⟨W.heap.size, 0, none⟩ 1 1 [.string ⟨y.toArray⟩] hx rfl (cell_one_new _ _ _) (by simp [Value.oneCell']) (by simp only [maxLen]; omega) (by omega) (by simp; omega) ?_
  intro v1 w1 hown hg _ hat
  refine h v1 w1 ((H.alloc _).names ?_ hg hat) ((HB.alloc hbase _).grown hg (by simp; omega) (fun k hk => (World.ownsRow.lt H.s k hk).1))
  unfold SRow
  rw [List.length_append, txCells, List.map_append]
  exact hown
theorem three_outName (hgd : o.guard = none) (s x : Operand) (ho : o.op = .call { callee := .builtin .append, args := #[s, x], argTypes := #[92, 92] })
    (hs : a.eval s = vo) (hx : a.eval x = vn)
    (H : Three B vo vn vs out nm nms W) (HB : Below B w0 W) (hbase : B ≤ W.heap.size) (hl : out.length + nm.length ≤ 140737488355328)
    (h : ∀ v1 w1, Three B v1 vn vs (out ++ nm) nm nms w1 → Below B w0 w1 → wpList Tryd.prog ops Q rest (a.put o.dst v1) w1) :
    wpList Tryd.prog ops Q (o :: rest) a W := by
  obtain ⟨i0, hi, hz0, hz1, hz2⟩ := info_parts row_info
  rcases H.n.2 with ⟨hv, hn⟩ | ⟨g, cap, cur, hv, _, hg, _⟩
  · obtain rfl : nm = [] := List.length_eq_zero_iff.1 hn
    refine wpList_append_own_none hgd s x 92 ho B 5 i0 1 Tryd.underlying92 hi vo out.length (Lib.byteCells out) hs H.o (by rw [hx, hv]) ?_
    rw [List.append_nil] at h
    exact h vo W H HB
  · refine row_grow hgd s x ho vo out nm ⟨g, 0, none⟩ nm.length cap rfl hs (by rw [hx, hv]) (World.ownsRow.cells H.n (by rw [hv]; rfl)) H.o hbase hl ?_
    intro v1 w1 h1 h2 h3
    exact h v1 w1 (H.appOut h1 h2 h3) (HB.grown h2 hbase (fun k hk => (World.ownsRow.lt H.o k hk).1))
end
end Go.Proofs.YtnmhoghmhglimaaDoor.H

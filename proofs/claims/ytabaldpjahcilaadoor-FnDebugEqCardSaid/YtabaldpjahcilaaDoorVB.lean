/-
  MERGED BY A PROGRAM OF THIS SESSION (wip/pack.py): Shelf, HBuf, HRow, QL0, QL1, HIndex.
-/
import Derived.Shelf.Strings.Builder1
import Derived.Shelf.Strings.Builder2
import Derived.Shelf.Small.Bits
import Derived.Shelf.Strings.BuilderF
import Derived.Shelf.Strings.BuilderK
import Derived.Shelf.Strings.Builder2Cap
import Derived.Shelf.Strconv.Itoa0
import Derived.Shelf.Strconv.Itoa1
import Derived.Shelf.LaysM
import Derived.Shelf.Strconv.Itoa2
import Derived.Shelf.Strconv.Itoa3
import Derived.Shelf.Strconv.Itoa4
import Derived.Shelf.Bytes.Len
import Derived.Shelf.Bytes.TryGrow
import Derived.Shelf.Bytes.GrowSliceCatch
import Derived.Shelf.Bytes.GrowSlice
import Derived.Shelf.Bytes.GrowRow0Kept
import Derived.Shelf.Bytes.GrowRowKept
import Derived.Shelf.Bytes.GrowNilKept
import Derived.Shelf.Bytes.GrowKept
import Derived.Shelf.Bytes.WriteStringKept
import Derived.Shelf.Bytes.ResetKept
import Derived.Shelf.Bytes.BufferK
import Derived.Shelf.Bytes.StringAt
import Derived.Shelf.Strings.Prefix
import Derived.Shelf.Bits.Mul64
import Derived.Shelf.Strings.Repeat
import Derived.Shelf.Strings.BuilderCap
import Derived.Test.YtabaldpjahcilaaDoorProg
import Derived.Test.YtabaldpjahcilaaDoorVA
import Derived.Lib.ItoaLen
import Derived.Lib.AppendIntMem
import Derived.OwnWalk
import Derived.Below
import Derived.Deep.Draws
import Derived.Deep.AppendLies
import Derived.Maps.AppendAt
import Derived.Laws.BytesArg
import Derived.Laws.MakeOwn
import Derived.Laws.OwnMore
import Derived.Deep.OwnRows
import Derived.Tactics
import Derived.Lib.ConvBytes
import Derived.Laws.Slices
import Derived.WalkKit
import Derived.KernelRfl
import Derived.RowKit3
import Derived.Deep.LoopGhost
import Derived.Deep.QuietTactic
import Derived.BigQuiet
import Derived.WideLaws
import Derived.Deep.DeepCutAuto
import Derived.Deep.CutBlock
import Derived.Deep.RegionHeld3
import Derived.Laws.Rows
import Derived.Lib.AppendStr
import Derived.ArgAppend
import Derived.Laws.IdiomCopy
import Derived.OrdersHeld
import Derived.Laws.BitsLemmas
import Derived.RowKit
/-
  DERIVED: THE SHELF's CONTRACTS AT THIS DUMP, IN PLAIN WORDS (tools/lay-plain.mjs out of 'TrydShelf.lean', which tools/lay-shelf.mjs wrote): THE SAME DECLARATIONS UNDER THE SAME NAMES: 'import', 'namespace', 'open', 'def', 'theorem' AND NOTHING ELSE: no command of the shelf's: FOR A HAND-IN. Each laying: the table of numbers ('.._ren') and one theorem, a field a fact of the dump's own or the kernel's comparison; each contract: ONE APPLICATION.
-/
namespace Go.Proofs
open Go.Shelf
def Tryd.lays170_ren : Go.Shelf.Ren := ⟨fun | 170 => 58 | n => n, fun | 70 => 88 | 3 => 3 | 0 => 0 | 72 => 90 | 37 => 61 | 5 => 5 | n => n, fun | n => n⟩
def Tryd.lays169_ren : Go.Shelf.Ren := ⟨fun | 169 => 49 | n => n, fun | 70 => 88 | 9 => 9 | 0 => 0 | 72 => 90 | 37 => 61 | 127 => 102 | 3 => 3 | 5 => 5 | n => n, fun | n => n⟩
def Tryd.lays241_ren : Go.Shelf.Ren := ⟨fun | 241 => 60 | 277 => 72 | n => n, fun | 70 => 88 | 3 => 3 | 0 => 0 | 72 => 90 | 37 => 61 | 5 => 5 | n => n, fun | n => n⟩
def Tryd.lays165_ren : Go.Shelf.Ren := ⟨fun | 165 => 47 | 240 => 59 | 241 => 60 | 276 => 71 | 277 => 72 | n => n, fun | 70 => 88 | 3 => 3 | 0 => 0 | 4 => 4 | 9 => 9 | 20 => 20 | 72 => 90 | 37 => 61 | 164 => 114 | 5 => 5 | n => n, fun | n => n⟩
def Tryd.lays128_ren : Go.Shelf.Ren := ⟨fun | 128 => 84 | n => n, fun | 51 => 105 | 3 => 3 | 4 => 4 | 46 => 98 | 5 => 5 | 9 => 9 | n => n, fun | n => n⟩
def Tryd.lays125_ren : Go.Shelf.Ren := ⟨fun | 125 => 67 | 128 => 84 | 129 => 62 | n => n, fun | 46 => 98 | 3 => 3 | 51 => 105 | 53 => 93 | 4 => 4 | 5 => 5 | 9 => 9 | n => n, fun | n => n⟩
theorem Tryd.lays125 : Go.Proofs.Lays.n125 Tryd.prog Tryd.lays125_ren := {
  mixed := by kernel_rfl
  f125 := Tryd.func67.trans (congrArg some (by kernel_rfl))
  f128 := Tryd.func84.trans (congrArg some (by kernel_rfl))
  f129 := Tryd.func62.trans (congrArg some (by kernel_rfl))
  t3 := Tryd.underlying3
  a3 := Tryd.isAgg3
  z3 := Tryd.sizeOf3
  v3 := Tryd.zeroValue3
  t4 := Tryd.underlying4
  a4 := Tryd.isAgg4
  z4 := Tryd.sizeOf4
  v4 := Tryd.zeroValue4
  t5 := Tryd.underlying5
  a5 := Tryd.isAgg5
  z5 := Tryd.sizeOf5
  v5 := Tryd.zeroValue5
  t9 := Tryd.underlying9
  a9 := Tryd.isAgg9
  z9 := Tryd.sizeOf9
  v9 := Tryd.zeroValue9
  t46 := Tryd.underlying98
  a46 := Tryd.isAgg98
  z46 := Tryd.sizeOf98
  v46 := Tryd.zeroValue98
  t51 := Tryd.underlying105
  a51 := Tryd.isAgg105
  z51 := Tryd.sizeOf105
  v51 := Tryd.zeroValue105
  t53 := Tryd.underlying93
  a53 := Tryd.isAgg93
  z53 := Tryd.sizeOf93
  v53 := Tryd.zeroValue93 }
/-- bits.Len: "Len returns the minimum number of bits required to represent x; the result is 0 for x == 0.": IT RETURNS 'Lib.bitLen x'; the world is as it was. (A uint has 64 bits in the model.) ITS CALLEE bits.Len64 IS MET BY ITS OWN CONTRACT OFF THE SHELF (lay that first). (LAID: no walk: one application.) -/
theorem Tryd.bits_Len (x : Int) (w : World) (h0 : 0 ≤ x) (h1 : x ≤ 18446744073709551615) :
    Calls Tryd.prog 67 #[.int .u64 x] w fun e w' => e = .returned (.int .i64 (Lib.bitLen x.toNat)) ∧ w' = w := Any.bits_Len Tryd.lays125 x w h0 h1
def Tryd.lays129_ren : Go.Shelf.Ren := ⟨fun | 129 => 62 | n => n, fun | 53 => 93 | 3 => 3 | 4 => 4 | 46 => 98 | 5 => 5 | 9 => 9 | n => n, fun | n => n⟩
def Tryd.lays317_ren : Go.Shelf.Ren := ⟨fun | 317 => 61 | n => n, fun | 3 => 3 | 46 => 98 | n => n, fun | n => n⟩
def Tryd.lays318_ren : Go.Shelf.Ren := ⟨fun | 318 => 63 | n => n, fun | 3 => 3 | 4 => 4 | n => n, fun | n => n⟩
def Tryd.lays283_ren : Go.Shelf.Ren := ⟨fun | 283 => 51 | n => n, fun | 3 => 3 | 9 => 9 | 4 => 4 | n => n, fun | n => n⟩
def Tryd.laysM284_ren : Go.Shelf.Ren := ⟨fun | 284 => 52 | 129 => 62 | 317 => 61 | 318 => 63 | n => n, fun | 53 => 93 | 3 => 3 | 212 => 104 | 0 => 0 | 4 => 4 | 46 => 98 | 5 => 5 | 9 => 9 | n => n, fun | 17 => 1 | n => n⟩
def Tryd.lays285_ren : Go.Shelf.Ren := ⟨fun | 285 => 53 | n => n, fun | 37 => 61 | 53 => 93 | 3 => 3 | 4 => 4 | 51 => 105 | 9 => 9 | 5 => 5 | 0 => 0 | n => n, fun | n => n⟩
def Tryd.laysM246_ren : Go.Shelf.Ren := ⟨fun | 246 => 44 | 283 => 51 | 284 => 52 | 285 => 53 | 286 => 54 | 129 => 62 | 317 => 61 | 318 => 63 | 319 => 64 | 320 => 65 | 337 => 73 | 338 => 74 | n => n, fun | 2 => 2 | 3 => 3 | 9 => 9 | 4 => 4 | 171 => 92 | 0 => 0 | 53 => 93 | 37 => 61 | 5 => 5 | 173 => 96 | 212 => 104 | 51 => 105 | 20 => 20 | 213 => 106 | 46 => 98 | 232 => 125 | 233 => 126 | n => n, fun | 17 => 1 | 18 => 3 | 19 => 4 | n => n⟩
def Tryd.lays246_ren : Go.Shelf.Ren := ⟨fun | 246 => 44 | 283 => 51 | 284 => 52 | 285 => 53 | 286 => 54 | 129 => 62 | 317 => 61 | 318 => 63 | 319 => 64 | 320 => 65 | 337 => 73 | 338 => 74 | n => n, fun | 2 => 2 | 3 => 3 | 9 => 9 | 4 => 4 | 171 => 92 | 0 => 0 | 53 => 93 | 37 => 61 | 5 => 5 | 173 => 96 | 212 => 104 | 51 => 105 | 20 => 20 | 213 => 106 | 46 => 98 | 232 => 125 | 233 => 126 | n => n, fun | 17 => 1 | 18 => 3 | 19 => 4 | n => n⟩
def Tryd.laysM173_ren : Go.Shelf.Ren := ⟨fun | 173 => 35 | 246 => 44 | 283 => 51 | 284 => 52 | 285 => 53 | 286 => 54 | 129 => 62 | 317 => 61 | 318 => 63 | 319 => 64 | 320 => 65 | 337 => 73 | 338 => 74 | n => n, fun | 2 => 2 | 3 => 3 | 9 => 9 | 4 => 4 | 171 => 92 | 0 => 0 | 53 => 93 | 37 => 61 | 5 => 5 | 173 => 96 | 212 => 104 | 51 => 105 | 20 => 20 | 213 => 106 | 46 => 98 | 232 => 125 | 233 => 126 | n => n, fun | 17 => 1 | 18 => 3 | 19 => 4 | n => n⟩
theorem Tryd.laysM173 : Go.Proofs.LaysM.n173 Tryd.prog Tryd.laysM173_ren := {
  mixed := by kernel_rfl
  f129 := Tryd.func62.trans (congrArg some (by kernel_rfl))
  f173 := Tryd.func35.trans (congrArg some (by kernel_rfl))
  f246 := Tryd.func44.trans (congrArg some (by kernel_rfl))
  f283 := Tryd.func51.trans (congrArg some (by kernel_rfl))
  f284 := Tryd.func52.trans (congrArg some (by kernel_rfl))
  f285 := Tryd.func53.trans (congrArg some (by kernel_rfl))
  f286 := Tryd.func54.trans (congrArg some (by kernel_rfl))
  f317 := Tryd.func61.trans (congrArg some (by kernel_rfl))
  f318 := Tryd.func63.trans (congrArg some (by kernel_rfl))
  f319 := Tryd.func64.trans (congrArg some (by kernel_rfl))
  f320 := Tryd.func65.trans (congrArg some (by kernel_rfl))
  f337 := Tryd.func73.trans (congrArg some (by kernel_rfl))
  f338 := Tryd.func74.trans (congrArg some (by kernel_rfl))
  t0 := Tryd.underlying0
  a0 := Tryd.isAgg0
  z0 := Tryd.sizeOf0
  v0 := Tryd.zeroValue0
  t2 := Tryd.underlying2
  a2 := Tryd.isAgg2
  z2 := Tryd.sizeOf2
  v2 := Tryd.zeroValue2
  t3 := Tryd.underlying3
  a3 := Tryd.isAgg3
  z3 := Tryd.sizeOf3
  v3 := Tryd.zeroValue3
  t4 := Tryd.underlying4
  a4 := Tryd.isAgg4
  z4 := Tryd.sizeOf4
  v4 := Tryd.zeroValue4
  t5 := Tryd.underlying5
  a5 := Tryd.isAgg5
  z5 := Tryd.sizeOf5
  v5 := Tryd.zeroValue5
  t9 := Tryd.underlying9
  a9 := Tryd.isAgg9
  z9 := Tryd.sizeOf9
  v9 := Tryd.zeroValue9
  t20 := Tryd.underlying20
  a20 := Tryd.isAgg20
  z20 := Tryd.sizeOf20
  v20 := Tryd.zeroValue20
  t37 := Tryd.underlying61
  a37 := Tryd.isAgg61
  z37 := Tryd.sizeOf61
  v37 := Tryd.zeroValue61
  t46 := Tryd.underlying98
  a46 := Tryd.isAgg98
  z46 := Tryd.sizeOf98
  v46 := Tryd.zeroValue98
  t51 := Tryd.underlying105
  a51 := Tryd.isAgg105
  z51 := Tryd.sizeOf105
  v51 := Tryd.zeroValue105
  t53 := Tryd.underlying93
  a53 := Tryd.isAgg93
  z53 := Tryd.sizeOf93
  v53 := Tryd.zeroValue93
  t171 := Tryd.underlying92
  a171 := Tryd.isAgg92
  z171 := Tryd.sizeOf92
  v171 := Tryd.zeroValue92
  t173 := Tryd.underlying96
  a173 := Tryd.isAgg96
  z173 := Tryd.sizeOf96
  v173 := Tryd.zeroValue96
  t212 := Tryd.underlying104
  a212 := Tryd.isAgg104
  z212 := Tryd.sizeOf104
  v212 := Tryd.zeroValue104
  t213 := Tryd.underlying106
  a213 := Tryd.isAgg106
  z213 := Tryd.sizeOf106
  t232 := Tryd.underlying125
  a232 := Tryd.isAgg125
  z232 := Tryd.sizeOf125
  v232 := Tryd.zeroValue125
  t233 := Tryd.underlying126
  a233 := Tryd.isAgg126
  z233 := Tryd.sizeOf126
  v233 := Tryd.zeroValue126
  g17 := by kernel_rfl
  g18 := by kernel_rfl
  g19 := by kernel_rfl
  i0 := by kernel_rfl
  i2 := by kernel_rfl
  i3 := by kernel_rfl
  i4 := by kernel_rfl
  i5 := by kernel_rfl
  i9 := by kernel_rfl
  i20 := by kernel_rfl
  i37 := by kernel_rfl
  i46 := by kernel_rfl
  i51 := by kernel_rfl
  i53 := by kernel_rfl
  i171 := by kernel_rfl
  i173 := by kernel_rfl
  i212 := by kernel_rfl
  i232 := by kernel_rfl
  i233 := by kernel_rfl
  m17 := by kernel_rfl
  m18 := by kernel_rfl
  m19 := by kernel_rfl }
open Go.RowKit Go.Sort Go.Lib in
/-- strconv.FormatInt: "FormatInt returns the string representation of i in the given base": AT BASE 10: i's decimal numeral, for every int64. (LAID: no walk: one application.) -/
theorem Tryd.strconv_FormatInt_10 (n : Int) (h0 : -9223372036854775808 ≤ n) (h1 : n ≤ 9223372036854775807) (w : World) (htab : Lib.TabIs Tryd.prog w "internal/strconv.uint64pow10" .u64 Lib.pow10Tab) :
    Calls Tryd.prog 35 #[.int .i64 n, .int .i64 10] w fun e w' => e = .returned (.string ⟨(Lib.itoa n).toArray⟩) ∧ ∃ k os, w' = grow (w.drewN k) os := Any.strconv_FormatInt_10 Tryd.laysM173 n h0 h1 w htab
def Tryd.lays173_ren : Go.Shelf.Ren := ⟨fun | 173 => 35 | 246 => 44 | 283 => 51 | 284 => 52 | 285 => 53 | 286 => 54 | 129 => 62 | 317 => 61 | 318 => 63 | 319 => 64 | 320 => 65 | 337 => 73 | 338 => 74 | n => n, fun | 2 => 2 | 3 => 3 | 9 => 9 | 4 => 4 | 171 => 92 | 0 => 0 | 53 => 93 | 37 => 61 | 5 => 5 | 173 => 96 | 212 => 104 | 51 => 105 | 20 => 20 | 213 => 106 | 46 => 98 | 232 => 125 | 233 => 126 | n => n, fun | 17 => 1 | 18 => 3 | 19 => 4 | n => n⟩
def Tryd.laysM181_ren : Go.Shelf.Ren := ⟨fun | 181 => 41 | n => n, fun | 130 => 60 | 3 => 3 | 0 => 0 | 93 => 65 | 37 => 61 | 91 => 63 | 5 => 5 | n => n, fun | n => n⟩
def Tryd.laysM251_ren : Go.Shelf.Ren := ⟨fun | 251 => 33 | n => n, fun | 130 => 60 | 3 => 3 | 4 => 4 | 0 => 0 | 93 => 65 | 37 => 61 | 91 => 63 | 5 => 5 | n => n, fun | n => n⟩
def Tryd.laysM324_ren : Go.Shelf.Ren := ⟨fun | 324 => 50 | n => n, fun | 20 => 20 | 4 => 4 | 75 => 50 | 0 => 0 | 80 => 56 | 9 => 9 | n => n, fun | 14 => 0 | n => n⟩
def Tryd.laysM290_ren : Go.Shelf.Ren := ⟨fun | 290 => 43 | 324 => 50 | n => n, fun | 37 => 61 | 3 => 3 | 0 => 0 | 4 => 4 | 20 => 20 | 75 => 50 | 5 => 5 | 80 => 56 | 9 => 9 | n => n, fun | 14 => 0 | n => n⟩
def Tryd.laysM252_ren : Go.Shelf.Ren := ⟨fun | 252 => 34 | 181 => 41 | 184 => 42 | 251 => 33 | 290 => 43 | 324 => 50 | n => n, fun | 130 => 60 | 3 => 3 | 4 => 4 | 0 => 0 | 93 => 65 | 131 => 75 | 37 => 61 | 75 => 50 | 91 => 63 | 20 => 20 | 5 => 5 | 80 => 56 | 9 => 9 | n => n, fun | 14 => 0 | n => n⟩
def Tryd.laysM178_ren : Go.Shelf.Ren := ⟨fun | 178 => 26 | 251 => 33 | 252 => 34 | 181 => 41 | 184 => 42 | 290 => 43 | 324 => 50 | n => n, fun | 130 => 60 | 9 => 9 | 3 => 3 | 75 => 50 | 0 => 0 | 93 => 65 | 91 => 63 | 131 => 75 | 4 => 4 | 37 => 61 | 20 => 20 | 80 => 56 | 5 => 5 | n => n, fun | 14 => 0 | n => n⟩
theorem Tryd.laysM178 : Go.Proofs.LaysM.n178 Tryd.prog Tryd.laysM178_ren := {
  mixed := by kernel_rfl
  f178 := Tryd.func26.trans (congrArg some (by kernel_rfl))
  f181 := Tryd.func41.trans (congrArg some (by kernel_rfl))
  f184 := Tryd.func42.trans (congrArg some (by kernel_rfl))
  f251 := Tryd.func33.trans (congrArg some (by kernel_rfl))
  f252 := Tryd.func34.trans (congrArg some (by kernel_rfl))
  f290 := Tryd.func43.trans (congrArg some (by kernel_rfl))
  f324 := Tryd.func50.trans (congrArg some (by kernel_rfl))
  t0 := Tryd.underlying0
  a0 := Tryd.isAgg0
  z0 := Tryd.sizeOf0
  v0 := Tryd.zeroValue0
  t3 := Tryd.underlying3
  a3 := Tryd.isAgg3
  z3 := Tryd.sizeOf3
  v3 := Tryd.zeroValue3
  t4 := Tryd.underlying4
  a4 := Tryd.isAgg4
  z4 := Tryd.sizeOf4
  v4 := Tryd.zeroValue4
  t9 := Tryd.underlying9
  a9 := Tryd.isAgg9
  z9 := Tryd.sizeOf9
  v9 := Tryd.zeroValue9
  t20 := Tryd.underlying20
  a20 := Tryd.isAgg20
  z20 := Tryd.sizeOf20
  v20 := Tryd.zeroValue20
  t37 := Tryd.underlying61
  a37 := Tryd.isAgg61
  z37 := Tryd.sizeOf61
  v37 := Tryd.zeroValue61
  t75 := Tryd.underlying50
  a75 := Tryd.isAgg50
  z75 := Tryd.sizeOf50
  v75 := Tryd.zeroValue50
  t91 := Tryd.underlying63
  a91 := Tryd.isAgg63
  z91 := Tryd.sizeOf63
  v91 := Tryd.zeroValue63
  t93 := Tryd.underlying65
  a93 := Tryd.isAgg65
  z93 := Tryd.sizeOf65
  v93 := Tryd.zeroValue65
  t130 := Tryd.underlying60
  a130 := Tryd.isAgg60
  z130 := Tryd.sizeOf60
  v130 := Tryd.zeroValue60
  t131 := Tryd.underlying75
  a131 := Tryd.isAgg75
  z131 := Tryd.sizeOf75
  v131 := Tryd.zeroValue75
  g14 := by kernel_rfl
  t5 := Tryd.underlying5
  a5 := Tryd.isAgg5
  z5 := Tryd.sizeOf5
  v5 := Tryd.zeroValue5
  t80 := Tryd.underlying56
  a80 := Tryd.isAgg56
  z80 := Tryd.sizeOf56
  v80 := Tryd.zeroValue56
  i0 := by kernel_rfl
  i3 := by kernel_rfl
  i4 := by kernel_rfl
  i5 := by kernel_rfl
  i9 := by kernel_rfl
  i20 := by kernel_rfl
  i37 := by kernel_rfl
  i75 := by kernel_rfl
  i80 := by kernel_rfl
  i91 := by kernel_rfl
  i93 := by kernel_rfl
  i130 := by kernel_rfl
  i131 := by kernel_rfl
  m14 := by kernel_rfl }
def Tryd.laysM184_ren : Go.Shelf.Ren := ⟨fun | 184 => 42 | n => n, fun | 130 => 60 | 0 => 0 | 93 => 65 | 37 => 61 | 3 => 3 | 91 => 63 | 5 => 5 | n => n, fun | n => n⟩
open Go.RowKit in
theorem Tryd.Buffer_WriteString_k (B b : Nat) (bs : List Value) (s : ByteArray) (w : World) (h : Lib.IsBuffer 65 5 B b bs w) (hBw : B ≤ w.heap.size) (h1 : ∀ v ∈ bs, v.oneCell' = true) (hlim : bs.length + s.size ≤ 140737488355328) :
    Calls Tryd.prog 26 #[.pointer (some ⟨b, 0, none⟩), .string s] w fun e w' => e = .returned (.tuple #[.int .i64 s.size, .nilIface]) ∧ Lib.IsBuffer 65 5 B b (bs ++ Lib.byteCells s.data.toList) w' ∧ Below B w w' ∧ Lib.OthersKept 5 (some b) w w' := Any.Buffer_WriteString_k Tryd.laysM178 B b bs s w h hBw h1 hlim
def Tryd.laysM182_ren : Go.Shelf.Ren := ⟨fun | 182 => 28 | n => n, fun | 130 => 60 | 9 => 9 | 4 => 4 | 0 => 0 | 93 => 65 | 37 => 61 | 3 => 3 | 91 => 63 | 5 => 5 | n => n, fun | n => n⟩
theorem Tryd.laysM182 : Go.Proofs.LaysM.n182 Tryd.prog Tryd.laysM182_ren := {
  mixed := by kernel_rfl
  f182 := Tryd.func28.trans (congrArg some (by kernel_rfl))
  t0 := Tryd.underlying0
  a0 := Tryd.isAgg0
  z0 := Tryd.sizeOf0
  v0 := Tryd.zeroValue0
  t3 := Tryd.underlying3
  a3 := Tryd.isAgg3
  z3 := Tryd.sizeOf3
  v3 := Tryd.zeroValue3
  t4 := Tryd.underlying4
  a4 := Tryd.isAgg4
  z4 := Tryd.sizeOf4
  v4 := Tryd.zeroValue4
  t9 := Tryd.underlying9
  a9 := Tryd.isAgg9
  z9 := Tryd.sizeOf9
  v9 := Tryd.zeroValue9
  t37 := Tryd.underlying61
  a37 := Tryd.isAgg61
  z37 := Tryd.sizeOf61
  v37 := Tryd.zeroValue61
  t93 := Tryd.underlying65
  a93 := Tryd.isAgg65
  z93 := Tryd.sizeOf65
  v93 := Tryd.zeroValue65
  t130 := Tryd.underlying60
  a130 := Tryd.isAgg60
  z130 := Tryd.sizeOf60
  v130 := Tryd.zeroValue60
  t5 := Tryd.underlying5
  a5 := Tryd.isAgg5
  z5 := Tryd.sizeOf5
  v5 := Tryd.zeroValue5
  t91 := Tryd.underlying63
  a91 := Tryd.isAgg63
  z91 := Tryd.sizeOf63
  v91 := Tryd.zeroValue63
  i0 := by kernel_rfl
  i3 := by kernel_rfl
  i4 := by kernel_rfl
  i5 := by kernel_rfl
  i9 := by kernel_rfl
  i37 := by kernel_rfl
  i91 := by kernel_rfl
  i93 := by kernel_rfl
  i130 := by kernel_rfl }
open Go.RowKit in
/-- (*bytes.Buffer).String: "String returns the contents of the unread portion of the buffer as a string.": THE BYTES THAT WERE WRITTEN. The world is as it was but for the count of draws (the statement has two reads: its order is drawn). (LAID: no walk: one application.) -/
theorem Tryd.Buffer_String_at (T : TypeId) (R : Nat → Option Value) (B b q : Nat) (l : List UInt8) (w : World) (h : LibA.IsBuffer T R 5 B b q (Lib.byteCells l) w) :
    Calls Tryd.prog 28 #[.pointer (some ⟨b, q, none⟩)] w fun e w' => e = .returned (.string ⟨l.toArray⟩) ∧ ∃ n, w' = w.drewN n := Any.Buffer_String_at Tryd.laysM182 T R B b q l w h
def Tryd.lays206_ren : Go.Shelf.Ren := ⟨fun | 206 => 70 | n => n, fun | 9 => 9 | 4 => 4 | 3 => 3 | n => n, fun | n => n⟩
def Tryd.lays99_ren : Go.Shelf.Ren := ⟨fun | 99 => 57 | 206 => 70 | n => n, fun | 9 => 9 | 4 => 4 | 3 => 3 | n => n, fun | n => n⟩
def Tryd.lays264_ren : Go.Shelf.Ren := ⟨fun | 264 => 69 | n => n, fun | 53 => 93 | 46 => 98 | n => n, fun | n => n⟩
def Tryd.lays212_ren : Go.Shelf.Ren := ⟨fun | 212 => 56 | 263 => 68 | 264 => 69 | n => n, fun | 46 => 98 | 51 => 105 | 146 => 110 | 53 => 93 | 148 => 112 | n => n, fun | n => n⟩
def Tryd.lays105_ren : Go.Shelf.Ren := ⟨fun | 105 => 46 | 212 => 56 | 99 => 57 | 165 => 47 | 166 => 48 | 170 => 58 | 169 => 49 | 263 => 68 | 264 => 69 | 206 => 70 | 240 => 59 | 241 => 60 | 276 => 71 | 277 => 72 | n => n, fun | 9 => 9 | 3 => 3 | 4 => 4 | 20 => 20 | 0 => 0 | 46 => 98 | 109 => 99 | 5 => 5 | 72 => 90 | 76 => 67 | 51 => 105 | 146 => 110 | 53 => 93 | 148 => 112 | 70 => 88 | 37 => 61 | 75 => 50 | 127 => 102 | 164 => 114 | 80 => 56 | n => n, fun | n => n⟩
theorem Tryd.lays105 : Go.Proofs.Lays.n105 Tryd.prog Tryd.lays105_ren := {
  mixed := by kernel_rfl
  f99 := Tryd.func57.trans (congrArg some (by kernel_rfl))
  f105 := Tryd.func46.trans (congrArg some (by kernel_rfl))
  f165 := Tryd.func47.trans (congrArg some (by kernel_rfl))
  f166 := Tryd.func48.trans (congrArg some (by kernel_rfl))
  f169 := Tryd.func49.trans (congrArg some (by kernel_rfl))
  f170 := Tryd.func58.trans (congrArg some (by kernel_rfl))
  f206 := Tryd.func70.trans (congrArg some (by kernel_rfl))
  f212 := Tryd.func56.trans (congrArg some (by kernel_rfl))
  f240 := Tryd.func59.trans (congrArg some (by kernel_rfl))
  f241 := Tryd.func60.trans (congrArg some (by kernel_rfl))
  f263 := Tryd.func68.trans (congrArg some (by kernel_rfl))
  f264 := Tryd.func69.trans (congrArg some (by kernel_rfl))
  f276 := Tryd.func71.trans (congrArg some (by kernel_rfl))
  f277 := Tryd.func72.trans (congrArg some (by kernel_rfl))
  t0 := Tryd.underlying0
  a0 := Tryd.isAgg0
  z0 := Tryd.sizeOf0
  v0 := Tryd.zeroValue0
  t3 := Tryd.underlying3
  a3 := Tryd.isAgg3
  z3 := Tryd.sizeOf3
  v3 := Tryd.zeroValue3
  t4 := Tryd.underlying4
  a4 := Tryd.isAgg4
  z4 := Tryd.sizeOf4
  v4 := Tryd.zeroValue4
  t5 := Tryd.underlying5
  a5 := Tryd.isAgg5
  z5 := Tryd.sizeOf5
  v5 := Tryd.zeroValue5
  t9 := Tryd.underlying9
  a9 := Tryd.isAgg9
  z9 := Tryd.sizeOf9
  v9 := Tryd.zeroValue9
  t20 := Tryd.underlying20
  a20 := Tryd.isAgg20
  z20 := Tryd.sizeOf20
  v20 := Tryd.zeroValue20
  t37 := Tryd.underlying61
  a37 := Tryd.isAgg61
  z37 := Tryd.sizeOf61
  v37 := Tryd.zeroValue61
  t46 := Tryd.underlying98
  a46 := Tryd.isAgg98
  z46 := Tryd.sizeOf98
  v46 := Tryd.zeroValue98
  t51 := Tryd.underlying105
  a51 := Tryd.isAgg105
  z51 := Tryd.sizeOf105
  v51 := Tryd.zeroValue105
  t53 := Tryd.underlying93
  a53 := Tryd.isAgg93
  z53 := Tryd.sizeOf93
  v53 := Tryd.zeroValue93
  t70 := Tryd.underlying88
  a70 := Tryd.isAgg88
  z70 := Tryd.sizeOf88
  v70 := Tryd.zeroValue88
  t72 := Tryd.underlying90
  a72 := Tryd.isAgg90
  z72 := Tryd.sizeOf90
  v72 := Tryd.zeroValue90
  t75 := Tryd.underlying50
  a75 := Tryd.isAgg50
  z75 := Tryd.sizeOf50
  v75 := Tryd.zeroValue50
  t76 := Tryd.underlying67
  a76 := Tryd.isAgg67
  z76 := Tryd.sizeOf67
  v76 := Tryd.zeroValue67
  t109 := Tryd.underlying99
  a109 := Tryd.isAgg99
  z109 := Tryd.sizeOf99
  v109 := Tryd.zeroValue99
  t127 := Tryd.underlying102
  a127 := Tryd.isAgg102
  z127 := Tryd.sizeOf102
  v127 := Tryd.zeroValue102
  t146 := Tryd.underlying110
  a146 := Tryd.isAgg110
  z146 := Tryd.sizeOf110
  v146 := Tryd.zeroValue110
  t148 := Tryd.underlying112
  a148 := Tryd.isAgg112
  z148 := Tryd.sizeOf112
  v148 := Tryd.zeroValue112
  t164 := Tryd.underlying114
  a164 := Tryd.isAgg114
  z164 := Tryd.sizeOf114
  v164 := Tryd.zeroValue114 }
theorem Tryd.Builder_Extra_105 : Builder.Extra Tryd.prog Tryd.lays105_ren := {
  sizeBuilder := by kernel_rfl
  liesBuilder := by kernel_rfl
  t5 := Tryd.underlying5
  a5 := Tryd.isAgg5
  z5 := Tryd.sizeOf5
  v5 := Tryd.zeroValue5
  infoByte := by kernel_rfl
  cellsByte := by kernel_rfl
  sizeByte := by kernel_rfl
  neB5 := by decide }
open Go.RowKit Go.Lib in
/-- **strings.Repeat: count ≥ 0, the result within one allocation: count copies of s.** (LAID: no walk: one application.) -/
theorem Tryd.strings_Repeat (s : ByteArray) (c : Nat) (w : World) (hc : c ≤ 9223372036854775807) (hlen : s.size * c ≤ 140737488355328) :
    Calls Tryd.prog 46 #[.string s, .int .i64 c] w fun e w' => e = .returned (.string ⟨(Lib.repeatL s.data.toList c).toArray⟩) ∧ Below w.heap.size w w' := Any.strings_Repeat Tryd.lays105 Tryd.Builder_Extra_105 s c w hc hlen
end Go.Proofs
/-
  A CONTRACT: bytes.Buffer, as it holds bytes that were written into it (over the shelf's contracts).
-/
namespace Go.Proofs.YtabaldpjahcilaaDoor.H
open Go.RowKit Go.Proofs.YtabaldpjahcilaaDoorW.PrintWords

/-- Block b is a bytes.Buffer of the call's own (from block B on) that holds these bytes. -/
def Buf (B b : Nat) (l : List UInt8) (w : World) : Prop := Lib.IsBuffer 65 5 B b (Lib.byteCells l) w
theorem buf_fresh (w : World) : Buf w.heap.size w.heap.size [] (w.alloc (.cells #[.slice none 0 0, .int .i64 0, .int .i8 0] 65)) := Lib.fresh_isBuffer 65 5 w
theorem buf_write (B b : Nat) (l : List UInt8) (s : ByteArray) (w : World) (h : Buf B b l w) (hBw : B ≤ w.heap.size) (hlim : l.length + s.size ≤ 140737488355328) :
    Calls Tryd.prog 26 #[.pointer (some ⟨b, 0, none⟩), .string s] w fun e w' => e = .returned (.tuple #[.int .i64 s.size, .nilIface]) ∧ Buf B b (l ++ s.data.toList) w' ∧ Below B w w' ∧ Lib.OthersKept 5 (some b) w w' := by
  refine (Tryd.Buffer_WriteString_k B b _ s w h hBw (Lib.byteCells_one _) (by rw [Lib.byteCells_length]; exact hlim)).mono ?_
  rintro e w1 ⟨rfl, h1, h2, h3⟩
  refine ⟨rfl, ?_, h2, h3⟩
  unfold Buf
  rw [Lib.byteCells_append]
  exact h1
theorem buf_string (B b : Nat) (l : List UInt8) (w : World) (h : Buf B b l w) :
    Calls Tryd.prog 28 #[.pointer (some ⟨b, 0, none⟩)] w fun e w' => e = .returned (.string ⟨l.toArray⟩) ∧ ∃ n, w' = w.drewN n := Tryd.Buffer_String_at _ _ B b 0 l w (LibA.of_whole h)
end Go.Proofs.YtabaldpjahcilaaDoor.H
/-
  The table that strconv reads.
-/
namespace Go.Proofs.YtabaldpjahcilaaDoor.H
open Go.RowKit Go.Proofs.YtabaldpjahcilaaDoorW.PrintWords
set_option linter.unusedVariables false

/-- The table of internal/strconv reads as its initialiser lays it. -/
def Tab (w : World) : Prop := Lib.TabIs Tryd.prog w "internal/strconv.uint64pow10" .u64 Lib.pow10Tab
/-- .. whatever is done from block B on. -/
def TabB (B : Nat) (w : World) : Prop := Lib.TabBelow Tryd.prog B w "internal/strconv.uint64pow10" .u64 Lib.pow10Tab
theorem tab_below {w : World} (h : Tab w) : TabB w.heap.size w := Lib.tabBelow_of_tabIs h
theorem tab_at {B : Nat} {w w2 : World} (h : TabB B w) (k : Below B w w2) : Tab w2 := (h.on k).here
theorem w64 (x : Int) (h : -1099511627776 ≤ x ∧ x ≤ 1099511627776) : wrap64 x = x := IntWalk.wrap64_in x (by omega)
theorem fmt_at (n : Int) (h0 : -9223372036854775808 ≤ n) (h1 : n ≤ 9223372036854775807) (w : World) (ht : Tab w) :
    Calls Tryd.prog 35 #[.int .i64 n, .int .i64 10] w fun e w' => e = .returned (.string ⟨(Lib.itoa n).toArray⟩) ∧ Below w.heap.size w w' := by
  refine (Tryd.strconv_FormatInt_10 n h0 h1 w ht).mono ?_
  rintro e w' ⟨rfl, k, os, rfl⟩
  exact ⟨rfl, Lib.below_grow w.heap.size w (Nat.le_refl _) k os⟩
end Go.Proofs.YtabaldpjahcilaaDoor.H
-- WRITTEN BY A PROGRAM OF THIS SESSION (wip/print2.py): the print, with contracts of this session's own let in. Not trusted: Lean checks it.
namespace Go.Proofs.YtabaldpjahcilaaDoor.QL
open Go.RowKit Go.Proofs.YtabaldpjahcilaaDoorW.PrintWords Go.Proofs.YtabaldpjahcilaaDoorW.PrintLast Go.Proofs.YtabaldpjahcilaaDoorW.PrintMore
attribute [local go_sem] max2_int min2_int max_two min_two max_three min_three max_four min_four   -- for this text's walks alone
set_option linter.unusedVariables false
set_option linter.unusedSimpArgs false



def errW : Option Int → Value
  | none => .nilIface
  | some c => .iface 0 (.int .i64 c)
theorem errW_none : errW none = .nilIface := rfl
theorem errW_some (c : Int) : errW (some c) = .iface 0 (.int .i64 c) := rfl

-- the values' own types

end Go.Proofs.YtabaldpjahcilaaDoor.QL
-- WRITTEN BY A PROGRAM OF THIS SESSION (wip/print2.py): the print, with contracts of this session's own let in. Not trusted: Lean checks it.
namespace Go.Proofs.YtabaldpjahcilaaDoor.QL
open Go.RowKit Go.Proofs.YtabaldpjahcilaaDoorW.PrintWords Go.Proofs.YtabaldpjahcilaaDoorW.PrintLast Go.Proofs.YtabaldpjahcilaaDoorW.PrintMore
attribute [local go_sem] max2_int min2_int max_two min_two max_three min_three max_four min_four   -- for this text's walks alone
set_option linter.unusedVariables false
set_option linter.unusedSimpArgs false

/-! ### squirrel_zzIndex: function 25 -/
def squirrel_zzIndex.l0 : Nat → ByteArray → ByteArray → Int → Option (Int)
  | 0, _, _, _ => none
  | k + 1, x0, x1, x5 => if (wrap64 (x5 + (x1.size : Int))) ≤ (x0.size : Int) then (if 0 ≤ x5 then (if x5 ≤ (wrap64 (x5 + (x1.size : Int))) then (if (x0.extract (x5 : Int).toNat ((wrap64 (x5 + (x1.size : Int))) : Int).toNat).toList = x1.toList then (some x5) else (squirrel_zzIndex.l0 k x0 x1 (wrap64 (x5 + 1)))) else (none)) else (none)) else (some (-1))
def squirrel_zzIndex.f (k : Nat) (a0 : ByteArray) (a1 : ByteArray) : Option (Int) := squirrel_zzIndex.l0 k a0 a1 0
set_option maxHeartbeats 8000000 in
set_option maxRecDepth 100000 in
theorem squirrel_zzIndex.calls (k : Nat) (a0 : ByteArray) (a1 : ByteArray) (r : Int) (w : World) (h : squirrel_zzIndex.f k a0 a1 = some r) :
    Calls Tryd.prog 25 #[.string a0, .string a1] w fun e w' => e = .returned (.int .i64 r) ∧ Drawn0 w w' := by
  have H : (squirrel_zzIndex.l0 k a0 a1 0) = some r := h
  clear h
  have H' := Aside0.mk H
  clear H
  go_enter Tryd.func25, Tryd.ntmps25
  go_wp2
  go_loopg [5] k (fun kq v5 w' => ∃ (x5_1 : Int), v5 = .int .i64 x5_1 ∧ Aside0 (squirrel_zzIndex.l0 kq a0 a1 x5_1 = some r) ∧ Aside0 (kq ≤ k) ∧ Drawn0 w w')
  case atStart => exact ⟨(0), (by first | rfl | (simp; done) | (simp [*]; done)), H', ⟨Nat.le_refl _⟩, by repeat (first | exact Drawn0.refl _ | apply Drawn0.step)⟩
  case round =>
    clear H'
    try clear c2
    try clear p2
    obtain ⟨x5_1, rfl, HA, HK1, ⟨m1, rfl⟩⟩ := hrel
    cases gk with
    | zero => exact absurd HA.out (by simp [squirrel_zzIndex.l0])
    | succ k1 =>
      have H := HA.out
      clear HA
      simp only [squirrel_zzIndex.l0] at H
      by_cases c3 : (wrap64 (x5_1 + (a1.size : Int))) ≤ (a0.size : Int)
      · rw [if_pos c3] at H
        have c3b0 : decide ((wrap64 (x5_1 + (a1.size : Int))) ≤ (a0.size : Int)) = true := decide_eq_true c3
        clear c3
        by_cases c4 : 0 ≤ x5_1
        · rw [if_pos c4] at H
          have c4b0 := eq_true c4
          have c4b1 : decide (0 ≤ x5_1) = true := decide_eq_true c4
          clear c4
          by_cases c5 : x5_1 ≤ (wrap64 (x5_1 + (a1.size : Int)))
          · rw [if_pos c5] at H
            have c5b0 := eq_true c5
            have c5b1 : decide (x5_1 ≤ (wrap64 (x5_1 + (a1.size : Int)))) = true := decide_eq_true c5
            have c6b0 := eq_true (of_decide_eq_true (by first | (with_reducible assumption) | assumption) : (wrap64 (x5_1 + (a1.size : Int))) ≤ (a0.size : Int))
            by_cases c7 : (a0.extract (x5_1 : Int).toNat ((wrap64 (x5_1 + (a1.size : Int))) : Int).toNat).toList = a1.toList
            · rw [if_pos c7] at H
              have c7b0 : ((a0.extract (x5_1 : Int).toNat ((wrap64 (x5_1 + (a1.size : Int))) : Int).toNat).toList == a1.toList) = true := beq_iff_eq.mpr c7
              have c7b1 : ((a0.extract (x5_1 : Int).toNat ((wrap64 (x5_1 + (a1.size : Int))) : Int).toNat).toList != a1.toList) = false := bne_eq_false_iff_eq.mpr c7
              clear c7
              obtain rfl := Option.some.inj H
              go_wp2
              go_ret
              exact ⟨by first | rfl | (simp; done) | (simp [*]; done), by repeat (first | exact Drawn0.refl _ | apply Drawn0.step)⟩
            · rw [if_neg c7] at H
              have c7b0 : ((a0.extract (x5_1 : Int).toNat ((wrap64 (x5_1 + (a1.size : Int))) : Int).toNat).toList == a1.toList) = false := beq_eq_false_iff_ne.mpr c7
              have c7b1 : ((a0.extract (x5_1 : Int).toNat ((wrap64 (x5_1 + (a1.size : Int))) : Int).toNat).toList != a1.toList) = true := bne_iff_ne.mpr c7
              have H' := Aside0.mk H
              clear H
              go_wp2
              go_roundg k1
              case measure => have := HK1.out; omega
              case rel => exact ⟨(wrap64 (x5_1 + 1)), (by first | rfl | (simp; done) | (simp [*]; done)), H', ⟨by have := HK1.out; omega⟩, by repeat (first | exact Drawn0.refl _ | apply Drawn0.step)⟩
          · rw [if_neg c5] at H
            exact absurd H (by simp)
        · rw [if_neg c4] at H
          exact absurd H (by simp)
      · rw [if_neg c3] at H
        have c3b0 : decide ((wrap64 (x5_1 + (a1.size : Int))) ≤ (a0.size : Int)) = false := decide_eq_false c3
        clear c3
        obtain rfl := Option.some.inj H
        go_wp2
        go_ret
        exact ⟨by first | rfl | (simp; done) | (simp [*]; done), by repeat (first | exact Drawn0.refl _ | apply Drawn0.step)⟩

end Go.Proofs.YtabaldpjahcilaaDoor.QL
/-
  PLAIN: the place of the first question mark, as zzIndex finds it (texts of at most 2^20 bytes).
-/
namespace Go.Proofs.YtabaldpjahcilaaDoor.H
open Go.RowKit Go.Proofs.YtabaldpjahcilaaDoorW.PrintWords Go.Proofs.YtabaldpjahcilaaDoorW.PrintLast Go.Proofs.YtabaldpjahcilaaDoorW.PrintMore Go.Proofs.YtabaldpjahcilaaDoor.QL
set_option linter.unusedVariables false

def ixF : List UInt8 → Nat → Int
  | [], _ => -1
  | c :: t, i => if c = 63 then (i : Int) else ixF t (i + 1)
def ixI (q : ByteArray) : Int := ixF q.data.toList 0
theorem ixF_split : ∀ (l : List UInt8) (i : Nat), (ixF l i = -1 ∧ ∀ c ∈ l, c ≠ 63) ∨ ∃ pre post, l = pre ++ 63 :: post ∧ (∀ c ∈ pre, c ≠ 63) ∧ ixF l i = ((i + pre.length : Nat) : Int)
  | [], i => .inl ⟨rfl, by simp⟩
  | c :: t, i => by
    by_cases h : c = 63
    · subst h
      exact .inr ⟨[], t, rfl, by simp, by simp [ixF]⟩
    · rcases ixF_split t (i + 1) with ⟨h1, h2⟩ | ⟨pre, post, h1, h2, h3⟩
      · exact .inl ⟨by rw [ixF, if_neg h]; exact h1, List.forall_mem_cons.2 ⟨h, h2⟩⟩
      · refine .inr ⟨c :: pre, post, by rw [h1]; rfl, List.forall_mem_cons.2 ⟨h, h2⟩, ?_⟩
        rw [ixF, if_neg h, h3, List.length_cons]
        congr 1
        omega
theorem one_extract (q : ByteArray) (i : Nat) (h : i < q.size) : q.extract i (i + 1) = ⟨#[q[i]'h]⟩ := by
  apply ByteArray.ext
  have h' : i < q.data.size := h
  rw [ByteArray.data_extract]
  apply Array.ext'
  rw [Array.toList_extract, List.extract_eq_take_drop, List.drop_eq_getElem_cons (by simpa using h')]
  have e : i + 1 - i = 1 := by omega
  rw [e]
  rfl
theorem index_ev (q : ByteArray) (hq : q.size ≤ 1048576) : ∀ (d i : Nat), q.size - i = d → i ≤ q.size → ∃ k, squirrel_zzIndex.l0 k q ⟨#[63]⟩ (i : Int) = some (ixF (q.data.toList.drop i) i) := by
  have hl : q.data.toList.length = q.size := Array.length_toList
  have hone : (((⟨#[63]⟩ : ByteArray).size : Nat) : Int) = 1 := rfl
  intro d
  induction d with
  | zero =>
    intro i hd hi
    refine ⟨1, ?_⟩
    simp only [squirrel_zzIndex.l0]
    rw [hone, w64 _ (by omega), if_neg (by omega), List.drop_eq_nil_of_le (by omega)]
    rfl
  | succ d ih =>
    intro i hd hi
    obtain ⟨k, hk⟩ := ih (i + 1) (by omega) (by omega)
    have hlt : i < q.size := by omega
    refine ⟨k + 1, ?_⟩
    simp only [squirrel_zzIndex.l0]
    have e1 : ((i : Int) + 1).toNat = i + 1 := by omega
    have e2 : (i : Int) + 1 = ((i + 1 : Nat) : Int) := by omega
    rw [hone, w64 _ (by omega), if_pos (by omega), if_pos (by omega), if_pos (by omega), e1, Int.toNat_natCast, one_extract q i hlt, List.drop_eq_getElem_cons (by omega), ixF]
    have hg : q.data.toList[i]'(by omega) = q[i]'hlt := by rw [Array.getElem_toList]; rfl
    rw [hg]
    by_cases h : q[i]'hlt = 63
    · rw [h, if_pos rfl, if_pos rfl]
    · rw [if_neg (by simpa using h), if_neg h, e2]
      exact hk
theorem index_is (q : ByteArray) (hq : q.size ≤ 1048576) : ∃ k, squirrel_zzIndex.f k q ⟨#[63]⟩ = some (ixI q) := by
  obtain ⟨k, hk⟩ := index_ev q hq q.size 0 (by omega) (by omega)
  exact ⟨k, hk⟩
end Go.Proofs.YtabaldpjahcilaaDoor.H

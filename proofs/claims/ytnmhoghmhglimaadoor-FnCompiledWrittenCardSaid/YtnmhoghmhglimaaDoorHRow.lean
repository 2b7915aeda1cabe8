/-
  CONTRACTS over a row of bytes of the call's own, as it holds a list of bytes: make, append of bytes and of a text, strconv.AppendInt, and the text that it is turned into. And the table that AppendInt reads.
-/
import Derived.Test.YtnmhoghmhglimaaDoorShelf
import Derived.Test.YtnmhoghmhglimaaDoorWWords
import Derived.Test.YtnmhoghmhglimaaDoorWLast
import Derived.Test.YtnmhoghmhglimaaDoorWMore
import Derived.Lib.ItoaLen
import Derived.OwnWalk
namespace Go.Proofs.YtnmhoghmhglimaaDoor.H
open Go.RowKit Go.Proofs.YtnmhoghmhglimaaDoorW.PrintWords
set_option linter.unusedVariables false

/-- The table of internal/strconv reads as its initialiser lays it. -/
def Tab (w : World) : Prop := Lib.TabIs Tryd.prog w "internal/strconv.uint64pow10" .u64 Lib.pow10Tab
/-- .. whatever is done from block B on. -/
def TabB (B : Nat) (w : World) : Prop := Lib.TabBelow Tryd.prog B w "internal/strconv.uint64pow10" .u64 Lib.pow10Tab
theorem tab_below {w : World} (h : Tab w) : TabB w.heap.size w := Lib.tabBelow_of_tabIs h
theorem tab_on {B : Nat} {w w2 : World} (h : TabB B w) (k : Below B w w2) : TabB B w2 := h.on k

theorem tab_at {B : Nat} {w w2 : World} (h : TabB B w) (k : Below B w w2) : Tab w2 := (h.on k).here
/-- v is a row of the call's own (from block B on) that holds these bytes. -/
def Row (B : Nat) (l : List UInt8) (v : Value) (w : World) : Prop := w.ownsRow B 5 1 v l.length (Lib.byteCells l)
def intsOf (l : List UInt8) : List Int := l.map fun b => (b.toNat : Int)
theorem nums_ints (l : List UInt8) : nums .u8 (intsOf l) = Lib.byteCells l := by simp [nums, intsOf, Lib.byteCells]
theorem ints_len (l : List UInt8) : (intsOf l).length = l.length := by simp [intsOf]
theorem row_info : (Tryd.prog.info? 5).map (fun i => (i.zero, i.size, i.bytes)) = some (some (.int .u8 0), 1, 1) := by kernel_rfl
theorem row_slice {B : Nat} {l : List UInt8} {v : Value} {w : World} (h : Row B l v w) : ∃ A c, v = .slice A l.length c := own_slice h

section
variable {ops : Array Oper} {rest : List Oper} {o : Oper} {a : Act} {Q : Exit → Act → World → Prop}
theorem row_make {w0 : World} (w : World) (B : Nat) (hg : o.guard = none) (l c : Operand) (hop : o.op = Op.makeSlice 92 l c)
    (C : Int) (n : Nat) (hl : a.eval l = .int .i64 0) (hc : a.eval c = .int .i64 C) (hC : C = (n : Int)) (hn : n ≤ 281474976710656) (HB : Below B w0 w) (hB : B ≤ w.heap.size)
    (hK : ∀ v' w', Row B [] v' w' → Below B w0 w' → wpList Tryd.prog ops Q rest (a.put o.dst v') w') :
    wpList Tryd.prog ops Q (o :: rest) a w := by
  obtain ⟨i0, hi, hz0, hz1, hz2⟩ := info_parts row_info
  refine wpList_make_own w hg l c 92 hop B 5 i0 _ 1 Tryd.underlying92 hi hz0 hz1 .i64 .i64 C n hl hc hC (by rw [hz2]; omega) (by simp only [maxLen]; omega) hB ?_
  intro w' h1 h2
  exact hK _ w' h1 (HB.grown h2 hB (fun k hk => by cases hk))
theorem row_app1 {w0 W : World} (B : Nat) (hgd : o.guard = none) (s x : Operand) (ho : o.op = .call { callee := .builtin .append, args := #[s, x], argTypes := #[92, 92] })
    (v : Value) (l : List UInt8) (c : UInt8) (ci : Int) (hci : ci = (c.toNat : Int)) (hs : a.eval s = v) (hx : a.eval x = .slice (some ⟨W.heap.size, 0, none⟩) 1 1)
    (HO : Row B l v W) (HB : Below B w0 W) (hbase : B ≤ W.heap.size) (hl : l.length + 1 ≤ 140737488355328)
    (h : ∀ v1 w1, Row B (l ++ [c]) v1 w1 → Below B w0 w1 → wpList Tryd.prog ops Q rest (a.put o.dst v1) w1) :
    wpList Tryd.prog ops Q (o :: rest) a (W.alloc (.cells #[.int .u8 ci] 5)) := by
  subst hci
  have hlen : (Lib.byteCells l).length = l.length := Lib.byteCells_length l
  refine print_append (w0 := w0) B hgd s x 92 5 (.int .u8 0) 1 ho Tryd.underlying92 row_info rfl (by decide) v (Lib.byteCells l) _ hs hx rfl (by rw [hlen]; exact HO) HB hbase (by rw [hlen]; omega) ?_
  intro v1 w1 h1 h2 _ _
  refine h v1 w1 ?_ h2
  unfold Row
  have e : Lib.byteCells (l ++ [c]) = Lib.byteCells l ++ [.int .u8 (c.toNat : Int)] := by simp [Lib.byteCells]
  rw [e]
  have e2 : (Lib.byteCells l ++ [Value.int .u8 (c.toNat : Int)]).length = (l ++ [c]).length := by simp [hlen]
  rw [e2] at h1
  exact h1
theorem row_appN {w0 W : World} (B : Nat) (hgd : o.guard = none) (s x : Operand) (ho : o.op = .call { callee := .builtin .append, args := #[s, x], argTypes := #[92, 92] })
    (v : Value) (l ys : List UInt8) (m : Nat) (hm : ys.length = m) (cs : Array Value) (hcs : cs = (Lib.byteCells ys).toArray) (hs : a.eval s = v) (hx : a.eval x = .slice (some ⟨W.heap.size, 0, none⟩) m m)
    (HO : Row B l v W) (HB : Below B w0 W) (hbase : B ≤ W.heap.size) (hl : l.length + m ≤ 140737488355328)
    (h : ∀ v1 w1, Row B (l ++ ys) v1 w1 → Below B w0 w1 → wpList Tryd.prog ops Q rest (a.put o.dst v1) w1) :
    wpList Tryd.prog ops Q (o :: rest) a (W.alloc (.cells cs 5)) := by
  subst hm
  subst hcs
  obtain ⟨i0, hi, hz0, hz1, hz2⟩ := info_parts row_info
  have hlen : (Lib.byteCells ys).length = ys.length := Lib.byteCells_length ys
  refine wpList_append_own_at (W.alloc (.cells (Lib.byteCells ys).toArray 5)) hgd s x 92 ho B 5 i0 (.int .u8 0) 1 1 Tryd.underlying92 hi hz0 hz1 hz2 rfl (by decide) v l.length (Lib.byteCells l) hs (World.ownsRow.alloc HO _) ⟨W.heap.size, 0, none⟩ ys.length ys.length (Lib.byteCells ys) hx (by rw [hlen]; simp)
    (by simpa using World.news_of_block (cs := (Lib.byteCells ys).toArray) (t := 5) (fr := (0, 0)) (heap_alloc_new W (.cells (Lib.byteCells ys).toArray 5))) (Lib.byteCells_one ys) (by simp only [maxLen]; omega) (by omega) (by simp; omega) ?_
  intro v1 w1 hown hg _ hat
  refine h v1 w1 ?_ ((HB.alloc hbase _).grown hg (by simp; omega) (own_base HO))
  unfold Row
  rw [List.length_append, Lib.byteCells_append]
  exact hown
theorem row_appStr {w0 W : World} (B : Nat) (hgd : o.guard = none) (s x : Operand) (u : TypeId) (hu : Tryd.prog.underlying u = some .string) (ho : o.op = .call { callee := .builtin .append, args := #[s, x], argTypes := #[92, u] })
    (v : Value) (l : List UInt8) (y : ByteArray) (hs : a.eval s = v) (hx : a.eval x = .string y)
    (HO : Row B l v W) (HB : Below B w0 W) (hbase : B ≤ W.heap.size) (hl : l.length + y.size ≤ 140737488355328)
    (h : ∀ v1 w1, Row B (l ++ y.data.toList) v1 w1 → Below B w0 w1 → wpList Tryd.prog ops Q rest (a.put o.dst v1) w1) :
    wpList Tryd.prog ops Q (o :: rest) a W := by
  have hn := nums_ints l
  have hlen := ints_len l
  have hb : intsOf l ++ bytesOf y = intsOf (l ++ y.data.toList) := by simp [intsOf, bytesOf]
  refine print_append_str (w0 := w0) B hgd s x 92 u 5 ho Tryd.underlying92 hu row_info v (intsOf l) y hs hx (by rw [hn, hlen]; exact HO) HB hbase (by rw [hlen]; exact hl) ?_
  intro v1 w1 h1 h2 _
  rw [hb, nums_ints, ints_len] at h1
  exact h v1 w1 h1 h2
end
theorem row_string {B : Nat} {l : List UInt8} {v : Value} {w : World} (h : Row B l v w) : (convert 92 9 v).run Tryd.prog w = .ok (.string ⟨l.toArray⟩) w := by
  have := own_string (P := Tryd.prog) (src := 92) (dst := 9) (xs := intsOf l) Tryd.underlying92 Tryd.underlying5 Tryd.underlying9 (by rw [nums_ints]; exact h)
  rw [this]
  have e : strOfNums (intsOf l) = ⟨l.toArray⟩ := by
    apply ByteArray.ext
    simp [strOfNums, intsOf, Function.comp_def]
  rw [e]
theorem row_appInt (B : Nat) (l : List UInt8) (v : Value) (i : Int) (h0 : -9223372036854775808 ≤ i) (h1 : i ≤ 9223372036854775807) (w : World) (h : Row B l v w) (hBw : B ≤ w.heap.size) (hl : l.length + 21 ≤ 140737488355328) (ht : TabB B w) :
    Calls Tryd.prog 65 #[v, .int .i64 i, .int .i64 10] w fun e w' => ∃ v', e = .returned v' ∧ Row B (l ++ Lib.itoa i) v' w' ∧ Below B w w' := by
  refine (Tryd.strconv_AppendInt_10 B l.length i h0 h1 v _ w h hBw hl ht).mono ?_
  rintro e w1 ⟨v1, rfl, h2, h3, _⟩
  refine ⟨v1, rfl, ?_, h3⟩
  unfold Row
  rw [Lib.byteCells_append, List.length_append]
  exact h2
end Go.Proofs.YtnmhoghmhglimaaDoor.H

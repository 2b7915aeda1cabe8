/-
  CONTRACTS over three rows of the call's own side by side: two of bytes, and one of texts; each grows, and the others stay.
-/
import Derived.Test.YtnmhoghmhglimaaDoorHRow
import Derived.Laws.AppendOwnNone
import Derived.Lib.OthersKept
namespace Go.Proofs.YtnmhoghmhglimaaDoor.H
open Go.RowKit Go.Proofs.YtnmhoghmhglimaaDoorW.PrintWords
set_option linter.unusedVariables false

theorem own_below {B : Nat} {e : TypeId} {k : Nat} {v : Value} {n : Nat} {xs : List Value} {w w' : World} (h : w.ownsRow B e k v n xs) (hb : Below w.heap.size w w') : w'.ownsRow B e k v n xs := by
  refine ⟨h.1, ?_⟩
  rcases h.2 with hn | ⟨g, cap, cur, rfl, hB, hg, rest⟩
  · exact .inl hn
  · exact .inr ⟨g, cap, cur, rfl, hB, (hb.block g (Array.getElem?_eq_some_iff.1 hg).1).trans hg, rest⟩
theorem own_iterAt {B : Nat} {e : TypeId} {z : Nat} {v : Value} {n : Nat} {xs : List Value} {w : World} (h : w.ownsRow B e z v n xs) {k : Nat} {s : ByteArray} {p : Nat} (hk : w.heap[k]? = some (.stringIter s p)) (p' : Nat) : (w.iterAt k s p').ownsRow B e z v n xs := by
  refine ⟨h.1, ?_⟩
  rcases h.2 with hn | ⟨g, cap, cur, rfl, hB, hg, rest⟩
  · exact .inl hn
  · refine .inr ⟨g, cap, cur, rfl, hB, (Lib.iterAt_other w k g s p' ?_).trans hg, rest⟩
    rintro rfl
    rw [hk] at hg
    cases hg
/-- Texts, as cells. -/
def txCells (l : List (List UInt8)) : List Value := l.map fun x => .string ⟨x.toArray⟩
/-- v is a row of the call's own that holds these texts. -/
def SRow (B : Nat) (l : List (List UInt8)) (v : Value) (w : World) : Prop := w.ownsRow B 9 1 v l.length (txCells l)
def Apart (u v : Value) : Prop := u.ownBlock = none ∨ u.ownBlock ≠ v.ownBlock
theorem Apart.symm {u v : Value} (h : Apart u v) : Apart v u := by
  unfold Apart at *
  cases hv : v.ownBlock with
  | none => exact .inl rfl
  | some k =>
    refine .inr fun e => ?_
    rcases h with h | h
    · rw [h] at e
      cases e
    · exact h (by rw [hv]; exact e.symm)
theorem Apart.grown {u v v' : Value} {N : Nat} (h : Apart u v) (hu : ∀ k, u.ownBlock = some k → k < N) (hat : v'.ownBlock = v.ownBlock ∨ v'.ownBlock = some N) : Apart u v' := by
  unfold Apart at *
  rcases hat with e | e
  · rw [e]
    exact h
  · refine .inr fun e2 => ?_
    rw [e] at e2
    exact Nat.lt_irrefl _ (hu N e2)
structure Three (B : Nat) (vo vn vs : Value) (out nm : List UInt8) (nms : List (List UInt8)) (w : World) : Prop where
  o : Row B out vo w
  n : Row B nm vn w
  s : SRow B nms vs w
  on : Apart vo vn
  os : Apart vo vs
  ns : Apart vn vs
variable {B : Nat} {vo vn vs : Value} {out nm : List UInt8} {nms : List (List UInt8)}
theorem Three.below {w w' : World} (h : Three B vo vn vs out nm nms w) (hb : Below w.heap.size w w') : Three B vo vn vs out nm nms w' :=
  ⟨own_below h.o hb, own_below h.n hb, own_below h.s hb, h.on, h.os, h.ns⟩
theorem Three.alloc {w : World} (h : Three B vo vn vs out nm nms w) (o : Obj) : Three B vo vn vs out nm nms (w.alloc o) :=
  ⟨World.ownsRow.alloc h.o _, World.ownsRow.alloc h.n _, World.ownsRow.alloc h.s _, h.on, h.os, h.ns⟩
theorem Three.iterAt {w : World} (h : Three B vo vn vs out nm nms w) {k : Nat} {s : ByteArray} {p : Nat} (hk : w.heap[k]? = some (.stringIter s p)) (p' : Nat) : Three B vo vn vs out nm nms (w.iterAt k s p') :=
  ⟨own_iterAt h.o hk p', own_iterAt h.n hk p', own_iterAt h.s hk p', h.on, h.os, h.ns⟩
theorem Three.drewN {w : World} (h : Three B vo vn vs out nm nms w) (k : Nat) : Three B vo vn vs out nm nms (w.drewN k) := ⟨h.o, h.n, h.s, h.on, h.os, h.ns⟩
theorem Three.appOut {w w1 : World} (h : Three B vo vn vs out nm nms w) {vo' : Value} {out' : List UInt8} (hr : Row B out' vo' w1) (hg : w.grownBy w1 vo.ownBlock) (hat : vo'.ownBlock = vo.ownBlock ∨ vo'.ownBlock = some w.heap.size) : Three B vo' vn vs out' nm nms w1 :=
  ⟨hr, World.ownsRow.kept h.n hg h.on.symm, World.ownsRow.kept h.s hg h.os.symm, (h.on.symm.grown (fun k hk => (World.ownsRow.lt h.n k hk).2) hat).symm, (h.os.symm.grown (fun k hk => (World.ownsRow.lt h.s k hk).2) hat).symm, h.ns⟩
theorem Three.name {w w1 : World} (h : Three B vo vn vs out nm nms w) {vn' : Value} {nm' : List UInt8} (hr : Row B nm' vn' w1) (hg : w.grownBy w1 vn.ownBlock) (hat : vn'.ownBlock = vn.ownBlock ∨ vn'.ownBlock = some w.heap.size) : Three B vo vn' vs out nm' nms w1 :=
  ⟨World.ownsRow.kept h.o hg h.on, hr, World.ownsRow.kept h.s hg h.ns.symm, h.on.grown (fun k hk => (World.ownsRow.lt h.o k hk).2) hat, h.os, (h.ns.symm.grown (fun k hk => (World.ownsRow.lt h.s k hk).2) hat).symm⟩
theorem Three.names {w w1 : World} (h : Three B vo vn vs out nm nms w) {vs' : Value} {nms' : List (List UInt8)} (hr : SRow B nms' vs' w1) (hg : w.grownBy w1 vs.ownBlock) (hat : vs'.ownBlock = vs.ownBlock ∨ vs'.ownBlock = some w.heap.size) : Three B vo vn vs' out nm nms' w1 :=
  ⟨World.ownsRow.kept h.o hg h.os, World.ownsRow.kept h.n hg h.ns, hr, h.on, h.os.grown (fun k hk => (World.ownsRow.lt h.o k hk).2) hat, h.ns.grown (fun k hk => (World.ownsRow.lt h.n k hk).2) hat⟩
/-- A new empty name, laid in a block of its own. -/
theorem Three.fresh {w : World} (h : Three B vo vn vs out nm nms w) (hB : B ≤ w.heap.size) : Three B vo (.slice (some ⟨w.heap.size, 0, none⟩) 0 0) vs out [] nms (w.alloc (.cells #[] 5)) := by
  have hl : ∀ {u : Value}, (∀ k, u.ownBlock = some k → k < w.heap.size) → Apart u (.slice (some ⟨w.heap.size, 0, none⟩) 0 0) := by
    intro u hu
    refine .inr fun e => ?_
    exact Nat.lt_irrefl _ (hu _ (e.trans rfl))
  exact ⟨World.ownsRow.alloc h.o _, World.ownsRow_made w #[] 0 hB (by decide) rfl, World.ownsRow.alloc h.s _, hl (fun k hk => (World.ownsRow.lt h.o k hk).2), h.os, (hl (fun k hk => (World.ownsRow.lt h.s k hk).2)).symm⟩
theorem srow_info : (Tryd.prog.info? 9).map (fun i => (i.zero, i.size, i.bytes)) = some (some (.string ⟨#[]⟩), 1, 16) := by kernel_rfl
theorem txCells_len (l : List (List UInt8)) : (txCells l).length = l.length := by simp [txCells]

section
variable {ops : Array Oper} {rest : List Oper} {o : Oper} {a : Act} {Q : Exit → Act → World → Prop} {w0 W : World}
/-- Bytes behind a row: what it holds, and that nothing but its block is new. -/
theorem row_grow (hgd : o.guard = none) (s x : Operand) (ho : o.op = .call { callee := .builtin .append, args := #[s, x], argTypes := #[92, 92] })
    (v : Value) (l ys : List UInt8) (ad : Addr) (m c : Nat) (hm : ys.length = m) (hs : a.eval s = v) (hx : a.eval x = .slice (some ad) m c) (hn : ∀ j u, (Lib.byteCells ys)[j]? = some u → W.cell? (ad.add j) = some u)
    (HO : Row B l v W) (hbase : B ≤ W.heap.size) (hl : l.length + m ≤ 140737488355328)
    (h : ∀ v1 w1, Row B (l ++ ys) v1 w1 → W.grownBy w1 v.ownBlock → (v1.ownBlock = v.ownBlock ∨ v1.ownBlock = some W.heap.size) → wpList Tryd.prog ops Q rest (a.put o.dst v1) w1) :
    wpList Tryd.prog ops Q (o :: rest) a W := by
  subst hm
  obtain ⟨i0, hi, hz0, hz1, hz2⟩ := info_parts row_info
  have hlen : (Lib.byteCells ys).length = ys.length := Lib.byteCells_length ys
  refine wpList_append_own_at W hgd s x 92 ho B 5 i0 (.int .u8 0) 1 1 Tryd.underlying92 hi hz0 hz1 hz2 rfl (by decide) v l.length (Lib.byteCells l) hs HO ad ys.length c (Lib.byteCells ys) hx (by rw [hlen]; simp) hn (Lib.byteCells_one ys) (by simp only [maxLen]; omega) (by omega) hbase ?_
  intro v1 w1 hown hg _ hat
  refine h v1 w1 ?_ hg hat
  unfold Row
  rw [List.length_append, Lib.byteCells_append]
  exact hown
theorem make_bytes (w : World) (B : Nat) (hg : o.guard = none) (l c : Operand) (hop : o.op = Op.makeSlice 92 l c)
    (C : Int) (n : Nat) (hl : a.eval l = .int .i64 0) (hc : a.eval c = .int .i64 C) (hC : C = (n : Int)) (hn : n ≤ 281474976710656) (hB : B ≤ w.heap.size)
    (hK : ∀ w', w'.ownsRow B 5 1 (.slice (some ⟨w.heap.size, 0, none⟩) 0 n) 0 [] → w.grownBy w' none → wpList Tryd.prog ops Q rest (a.put o.dst (.slice (some ⟨w.heap.size, 0, none⟩) 0 n)) w') :
    wpList Tryd.prog ops Q (o :: rest) a w := by
  obtain ⟨i0, hi, hz0, hz1, hz2⟩ := info_parts row_info
  exact wpList_make_own w hg l c 92 hop B 5 i0 _ 1 Tryd.underlying92 hi hz0 hz1 .i64 .i64 C n hl hc hC (by rw [hz2]; omega) (by simp only [maxLen]; omega) hB hK
theorem make_texts (w : World) (B : Nat) (hg : o.guard = none) (l c : Operand) (hop : o.op = Op.makeSlice 30 l c)
    (C : Int) (n : Nat) (hl : a.eval l = .int .i64 0) (hc : a.eval c = .int .i64 C) (hC : C = (n : Int)) (hn : n ≤ 1099511627776) (hB : B ≤ w.heap.size)
    (hK : ∀ w', w'.ownsRow B 9 1 (.slice (some ⟨w.heap.size, 0, none⟩) 0 n) 0 [] → w.grownBy w' none → wpList Tryd.prog ops Q rest (a.put o.dst (.slice (some ⟨w.heap.size, 0, none⟩) 0 n)) w') :
    wpList Tryd.prog ops Q (o :: rest) a w := by
  obtain ⟨i0, hi, hz0, hz1, hz2⟩ := info_parts srow_info
  exact wpList_make_own w hg l c 30 hop B 9 i0 _ 1 Tryd.underlying30 hi hz0 hz1 .i64 .i64 C n hl hc hC (by rw [hz2]; omega) (by simp only [maxLen]; omega) hB hK
theorem three_start {w w1 w2 w3 : World} {B n m k : Nat} (h1 : w1.ownsRow B 9 1 (.slice (some ⟨w.heap.size, 0, none⟩) 0 m) 0 []) (h2 : w2.ownsRow B 5 1 (.slice (some ⟨w1.heap.size, 0, none⟩) 0 n) 0 []) (h3 : w3.ownsRow B 5 1 (.slice (some ⟨w2.heap.size, 0, none⟩) 0 k) 0 [])
    (g2 : w1.grownBy w2 none) (g3 : w2.grownBy w3 none) : Three B (.slice (some ⟨w1.heap.size, 0, none⟩) 0 n) (.slice (some ⟨w2.heap.size, 0, none⟩) 0 k) (.slice (some ⟨w.heap.size, 0, none⟩) 0 m) [] [] [] w3 := by
  have l1 := (World.ownsRow.lt h1 w.heap.size rfl).2
  have l2 := (World.ownsRow.lt h2 w1.heap.size rfl).2
  have hl : ∀ {a b : Nat} {p q : Nat}, a ≠ b → Apart (.slice (some ⟨a, 0, none⟩) 0 p) (.slice (some ⟨b, 0, none⟩) 0 q) := fun {a b p q} h => .inr fun e => h (Option.some.inj e)
  exact ⟨World.ownsRow.kept h2 g3 (.inr (by simp [Value.ownBlock])), h3, World.ownsRow.kept (World.ownsRow.kept h1 g2 (.inr (by simp [Value.ownBlock]))) g3 (.inr (by simp [Value.ownBlock])), hl (by omega), hl (by omega), hl (by omega)⟩
theorem news_at (ys : List UInt8) : ∀ j u, (Lib.byteCells ys)[j]? = some u → (W.alloc (.cells (Lib.byteCells ys).toArray 5)).cell? ((⟨W.heap.size, 0, none⟩ : Addr).add j) = some u := by
  simpa using World.news_of_block (cs := (Lib.byteCells ys).toArray) (t := 5) (fr := (0, 0)) (heap_alloc_new W (.cells (Lib.byteCells ys).toArray 5))
theorem three_out (hgd : o.guard = none) (s x : Operand) (ho : o.op = .call { callee := .builtin .append, args := #[s, x], argTypes := #[92, 92] })
    (ys : List UInt8) (m : Nat) (hm : ys.length = m) (cs : Array Value) (hcs : cs = (Lib.byteCells ys).toArray) (hs : a.eval s = vo) (hx : a.eval x = .slice (some ⟨W.heap.size, 0, none⟩) m m)
    (H : Three B vo vn vs out nm nms W) (HB : Below B w0 W) (hbase : B ≤ W.heap.size) (hl : out.length + m ≤ 140737488355328)
    (h : ∀ v1 w1, Three B v1 vn vs (out ++ ys) nm nms w1 → Below B w0 w1 → (∀ k, W.heap.size ≥ k → (∀ c t z, W.heap[k]? ≠ some (.cells c t z)) → k < W.heap.size → w1.heap[k]? = W.heap[k]?) → wpList Tryd.prog ops Q rest (a.put o.dst v1) w1) :
    wpList Tryd.prog ops Q (o :: rest) a (W.alloc (.cells cs 5)) := by
  subst hcs
  refine row_grow hgd s x ho vo out ys ⟨W.heap.size, 0, none⟩ m m hm hs hx (news_at ys) (World.ownsRow.alloc H.o _) (by simp; omega) hl ?_
  intro v1 w1 h1 h2 h3
  refine h v1 w1 ((H.alloc _).appOut h1 h2 h3) ((HB.alloc hbase _).grown h2 (by simp; omega) (fun k hk => (World.ownsRow.lt H.o k hk).1)) ?_
  intro k _ hk hlt
  rw [h2.block k (by simp; omega), Below.heap_alloc _ _ _ hlt]
  intro e
  rcases H.o.2 with ⟨hv, _⟩ | ⟨g, cap, cur, hv, _, hg, _⟩
  · rw [hv] at e
    cases e
  · rw [hv] at e
    cases e
    exact hk _ _ _ hg
theorem three_name (hgd : o.guard = none) (s x : Operand) (ho : o.op = .call { callee := .builtin .append, args := #[s, x], argTypes := #[92, 92] })
    (c : UInt8) (ci : Int) (hci : ci = (c.toNat : Int)) (hs : a.eval s = vn) (hx : a.eval x = .slice (some ⟨W.heap.size, 0, none⟩) 1 1)
    (H : Three B vo vn vs out nm nms W) (HB : Below B w0 W) (hbase : B ≤ W.heap.size) (hl : nm.length + 1 ≤ 140737488355328)
    (h : ∀ v1 w1, Three B vo v1 vs out (nm ++ [c]) nms w1 → Below B w0 w1 → wpList Tryd.prog ops Q rest (a.put o.dst v1) w1) :
    wpList Tryd.prog ops Q (o :: rest) a (W.alloc (.cells #[.int .u8 ci] 5)) := by
  subst hci
  refine row_grow hgd s x ho vn nm [c] ⟨W.heap.size, 0, none⟩ 1 1 rfl hs hx (news_at [c]) (World.ownsRow.alloc H.n _) (by simp; omega) hl ?_
  intro v1 w1 h1 h2 h3
  exact h v1 w1 ((H.alloc _).name h1 h2 h3) ((HB.alloc hbase _).grown h2 (by simp; omega) (fun k hk => (World.ownsRow.lt H.n k hk).1))
theorem three_names (hgd : o.guard = none) (s x : Operand) (ho : o.op = .call { callee := .builtin .append, args := #[s, x], argTypes := #[30, 30] })
    (y : List UInt8) (ys : ByteArray) (hy : ys = ⟨y.toArray⟩) (hs : a.eval s = vs) (hx : a.eval x = .slice (some ⟨W.heap.size, 0, none⟩) 1 1)
    (H : Three B vo vn vs out nm nms W) (HB : Below B w0 W) (hbase : B ≤ W.heap.size) (hl : nms.length + 1 ≤ 1099511627776)
    (h : ∀ v1 w1, Three B vo vn v1 out nm (nms ++ [y]) w1 → Below B w0 w1 → wpList Tryd.prog ops Q rest (a.put o.dst v1) w1) :
    wpList Tryd.prog ops Q (o :: rest) a (W.alloc (.cells #[.string ys] 9)) := by
  subst hy
  obtain ⟨i0, hi, hz0, hz1, hz2⟩ := info_parts srow_info
  refine wpList_append_own_at (W.alloc (.cells #[.string ⟨y.toArray⟩] 9)) hgd s x 30 ho B 9 i0 _ 1 16 Tryd.underlying30 hi hz0 hz1 hz2 rfl (by decide) vs nms.length (txCells nms) hs (World.ownsRow.alloc H.s _) ⟨W.heap.size, 0, none⟩ 1 1 [.string ⟨y.toArray⟩] hx rfl (cell_one_new _ _ _) (by simp [Value.oneCell']) (by simp only [maxLen]; omega) (by omega) (by simp; omega) ?_
  intro v1 w1 hown hg _ hat
  refine h v1 w1 ((H.alloc _).names ?_ hg hat) ((HB.alloc hbase _).grown hg (by simp; omega) (fun k hk => (World.ownsRow.lt H.s k hk).1))
  unfold SRow
  rw [List.length_append, txCells, List.map_append]
  exact hown
theorem three_outName (hgd : o.guard = none) (s x : Operand) (ho : o.op = .call { callee := .builtin .append, args := #[s, x], argTypes := #[92, 92] })
    (hs : a.eval s = vo) (hx : a.eval x = vn)
    (H : Three B vo vn vs out nm nms W) (HB : Below B w0 W) (hbase : B ≤ W.heap.size) (hl : out.length + nm.length ≤ 140737488355328)
    (h : ∀ v1 w1, Three B v1 vn vs (out ++ nm) nm nms w1 → Below B w0 w1 → wpList Tryd.prog ops Q rest (a.put o.dst v1) w1) :
    wpList Tryd.prog ops Q (o :: rest) a W := by
  obtain ⟨i0, hi, hz0, hz1, hz2⟩ := info_parts row_info
  rcases H.n.2 with ⟨hv, hn⟩ | ⟨g, cap, cur, hv, _, hg, _⟩
  · obtain rfl : nm = [] := List.length_eq_zero_iff.1 hn
    refine wpList_append_own_none hgd s x 92 ho B 5 i0 1 Tryd.underlying92 hi vo out.length (Lib.byteCells out) hs H.o (by rw [hx, hv]) ?_
    rw [List.append_nil] at h
    exact h vo W H HB
  · refine row_grow hgd s x ho vo out nm ⟨g, 0, none⟩ nm.length cap rfl hs (by rw [hx, hv]) (World.ownsRow.cells H.n (by rw [hv]; rfl)) H.o hbase hl ?_
    intro v1 w1 h1 h2 h3
    exact h v1 w1 (H.appOut h1 h2 h3) (HB.grown h2 hbase (fun k hk => (World.ownsRow.lt H.o k hk).1))
end
end Go.Proofs.YtnmhoghmhglimaaDoor.H

/-
  CONTRACTS: strings.Builder, grown before it is written (over the shelf's contracts of Grow and String): WriteString.
-/
import Derived.Test.YtmiggjncmeomlaaShelf
import Derived.Test.YtmiggjncmeomlaaHRow
import Derived.Lib.Hide
import Derived.Lib.OthersKept
import Derived.Outline
namespace Go.Proofs.Ytmiggjncmeomlaa.H
open Go.RowKit Go.Proofs.YtmiggjncmeomlaaW.PrintWords Go.Proofs.YtmiggjncmeomlaaW.PrintLast Go.Proofs.YtmiggjncmeomlaaW.PrintMore
set_option linter.unusedVariables false
set_option linter.unusedSimpArgs false

/-- Block b is a strings.Builder of the call's own (from block B on), in use, that holds these bytes. -/
def Bld (B b : Nat) (l : List UInt8) (w : World) : Prop := Lib.BuilderAt 63 5 B b (.pointer (some ⟨b, 0, none⟩)) (Lib.byteCells l) w
/-- Every row that is none of bytes, and no builder, stays. -/
def KeptB (w w' : World) : Prop := ∀ (k : Nat) (c : Array Value) (t : TypeId) (fr : Nat × Nat), w.heap[k]? = some (.cells c t fr) → t ≠ 5 → t ≠ 63 → w'.heap[k]? = w.heap[k]?
theorem KeptB.refl (w : World) : KeptB w w := fun _ _ _ _ _ _ _ => rfl
theorem KeptB.trans {w w1 w2 : World} (h : KeptB w w1) (h2 : KeptB w1 w2) : KeptB w w2 := fun k c t fr hk h5 h107 => (h2 k c t fr ((h k c t fr hk h5 h107).trans hk) h5 h107).trans (h k c t fr hk h5 h107)
theorem Bld.below {B b : Nat} {l : List UInt8} {w w' : World} (h : Bld B b l w) (hb : Below w.heap.size w w') : Bld B b l w' := by
  obtain ⟨hB, v, hg, ho, hne⟩ := h
  exact ⟨hB, v, (hb.block b (Array.getElem?_eq_some_iff.1 hg).1).trans hg, pw_own_below ho hb, hne⟩
theorem Bld.lt {B b : Nat} {l : List UInt8} {w : World} (h : Bld B b l w) : b < w.heap.size := by
  obtain ⟨_, v, hg, _⟩ := h
  exact (Array.getElem?_eq_some_iff.1 hg).1
theorem KeptB.others {b : Nat} {w w' : World} (h : Lib.OthersKept 5 (some b) w w') {B : Nat} {l : List UInt8} (hb : Bld B b l w) : KeptB w w' := fun k c t fr hk h5 h107 => by
  obtain ⟨_, v, hg, _⟩ := hb
  refine (h k _ hk (fun e => ?_) (fun c' fz e => ?_)).trans hk.symm
  · injection e with e
    subst e
    rw [hg] at hk
    cases hk
    exact h107 rfl
  · cases e
    exact h5 rfl
theorem Bld.lower {B B' b : Nat} {l : List UInt8} {w : World} (h : Bld B b l w) (hB : B' ≤ B) : Bld B' b l w := by
  obtain ⟨h1, v, hg, ho, hne⟩ := h
  exact ⟨Nat.le_trans hB h1, v, hg, own_weaken ho hB, hne⟩
/-- A row of another type has grown. -/
theorem Bld.grown {B b : Nat} {l : List UInt8} {w w' : World} (h : Bld B b l w) {row : Option Nat} (hg : w.grownBy w' row) (hr : ∀ k, row = some k → ∃ c t fr, w.heap[k]? = some (.cells c t fr) ∧ t ≠ 5 ∧ t ≠ 63) : Bld B b l w' := by
  obtain ⟨hB, v, hb, ho, hne⟩ := h
  have hbr : some b ≠ row := fun e => by
    obtain ⟨c, t, fr, hk, _, h107⟩ := hr b e.symm
    rw [hb] at hk
    cases hk
    exact h107 rfl
  refine ⟨hB, v, (hg.block b (Array.getElem?_eq_some_iff.1 hb).1 hbr).trans hb, own_move ho (fun k hk => ?_), hne⟩
  obtain ⟨cells, hc⟩ := own_typed ho k hk
  refine hg.block k (Array.getElem?_eq_some_iff.1 hc).1 (fun e => ?_)
  obtain ⟨c, t, fr, hk2, h5, _⟩ := hr k e.symm
  rw [hc] at hk2
  cases hk2
  exact h5 rfl
section
variable {ops : Array Oper} {rest : List Oper} {o : Oper} {a : Act} {Q : Exit → Act → World → Prop}
theorem row_appStr2 {w0 W : World} (B : Nat) (hgd : o.guard = none) (s x : Operand) (u : TypeId) (hu : Try.prog.underlying u = some .string) (ho : o.op = .call { callee := .builtin .append, args := #[s, x], argTypes := #[61, u] })
    (v : Value) (l : List UInt8) (y : ByteArray) (hs : a.eval s = v) (hx : a.eval x = .string y)
    (HO : Row B l v W) (HB : Below B w0 W) (hbase : B ≤ W.heap.size) (hl : l.length + y.size ≤ 140737488355328)
    (h : ∀ v1 w1, Row B (l ++ y.data.toList) v1 w1 → Below B w0 w1 → W.grownBy w1 v.ownBlock → wpList Try.prog ops Q rest (a.put o.dst v1) w1) :
    wpList Try.prog ops Q (o :: rest) a W := by
  have hn := nums_ints l
  have hlen := ints_len l
  have hb : intsOf l ++ bytesOf y = intsOf (l ++ y.data.toList) := by simp [intsOf, bytesOf]
  refine print_append_str (w0 := w0) B hgd s x 61 u 5 ho Try.underlying61 hu row_info v (intsOf l) y hs hx (by rw [hn, hlen]; exact HO) HB hbase (by rw [hlen]; exact hl) ?_
  intro v1 w1 h1 h2 h3
  rw [hb, nums_ints, ints_len] at h1
  exact h v1 w1 h1 h2 h3
end
set_option maxRecDepth 100000 in
theorem bld_check (B b : Nat) (l : List UInt8) (w : World) (h : Bld B b l w) :
    Calls Try.prog 35 #[.pointer (some ⟨b, 0, none⟩)] w fun e w' => e = .returned (.tuple #[]) ∧ ∃ n, w' = w.drewN n := by
  obtain ⟨hB, v, hb, ho, hne⟩ := h
  have c0 := cell_of_row w b 0 _ _ _ hb
  simp only [List.getElem?_toArray, List.getElem?_cons_zero] at c0
  obtain ⟨j, hj, _⟩ := Option.map_eq_some_iff.1 (show (Try.prog.info? 63).map (·.size) = some 2 by kernel_rfl)
  have hnp := fun W => Lib.run_neq_ptr_same (P := Try.prog) (w := W) ⟨b, 0, none⟩ Try.underlying60 hj
  go_enter Try.func35, Try.ntmps35
  go_wp2_with fail
  (try simp only [Exit.inBlock, Exit.then])
  first | refine bodyPost_ret (results_none rfl _ _ _) rfl ?_ | refine bodyPost_end (results_none rfl _ _ _) rfl ?_
  exact ⟨rfl, 0, rfl⟩
set_option maxHeartbeats 1600000 in
set_option maxRecDepth 100000 in
theorem bld_write (B b : Nat) (l : List UInt8) (s : ByteArray) (w : World) (h : Bld B b l w) (hBw : B ≤ w.heap.size) (hl : l.length + s.size ≤ 140737488355328) :
    Calls Try.prog 27 #[.pointer (some ⟨b, 0, none⟩), .string s] w fun e w' => e = .returned (.tuple #[.int .i64 s.size, .nilIface]) ∧ Bld B b (l ++ s.data.toList) w' ∧ Below B w w' ∧ KeptB w w' := by
  have HC := Lib.hid (bld_check B b l w h)
  obtain ⟨hB, v, hb, ho, hne⟩ := h
  have c1 := cell_of_row w b 1 _ _ _ hb
  have f1 := frozen_of_row w b 1 _ _ hb
  simp only [List.getElem?_toArray, List.getElem?_cons_zero, List.getElem?_cons_succ] at c1
  go_enter Try.func27, Try.ntmps27
  go_wp2_with fail
  refine HC.out.mono ?_
  rintro e w1 ⟨rfl, n, rfl⟩
  have HROW : Hid (Row B l v (w.drewN n)) := Lib.hid (by
    have h1 := pw_own_drewN ho n
    rw [Lib.byteCells_length] at h1
    exact h1)
  have HHB : Hid (w.heap[b]? = some (.cells #[.pointer (some ⟨b, 0, none⟩), v] 63 (0, 0))) := Lib.hid hb
  have HHO := Lib.hid ho
  have HNE := Lib.hid hne
  have HB0 := Lib.hid (pw_below_drewN (Below.refl B w) n)
  have HL := Lib.hid hl
  have HBW := Lib.hid hBw
  clear ho hne hb hl hBw HC
  go_wp2_with (first | ((with_reducible refine gate_builtin (b := .append) (xs := #[.tmp 12, .tmp 13]) rfl ?_); at_builtin; refine row_appStr2 (w0 := w) B rfl (.tmp 12) (.tmp 13) 9 Try.underlying9 rfl v l s rfl rfl HROW.out HB0.out HBW.out HL.out ?_))
  intro v1 w1 h1 h2 h3
  obtain ⟨A1, n1, e1⟩ := own_slice h1
  have hln : (l ++ s.data.toList).length = l.length + s.size := by
    rw [List.length_append, Array.length_toList]
    rfl
  rw [hln] at e1
  have HE1 := Lib.hid e1
  rw [e1]
  clear e1
  have hbv : some b ≠ v.ownBlock := fun e => HNE.out e.symm
  have hb1 : w1.heap[b]? = some (.cells #[.pointer (some ⟨b, 0, none⟩), v] 63 (0, 0)) := (h3.block b (Array.getElem?_eq_some_iff.1 HHB.out).1 hbv).trans HHB.out
  have HB1 := Lib.hid hb1
  have HR1 := Lib.hid h1
  have HBL := Lib.hid h2
  have HG := Lib.hid h3
  have c2 := cell_of_row w1 b 1 _ _ _ hb1
  have f2 := frozen_of_row w1 b 1 _ _ hb1
  simp only [List.getElem?_toArray, List.getElem?_cons_zero, List.getElem?_cons_succ] at c2
  clear hb1 h1 h2 h3 c1 f1
  go_wp2_with fail
  go_ret2
  rw [← HE1.out]
  have hne1 : ∀ k, v1.ownBlock = some k → k ≠ b := fun k hk e => by
    obtain ⟨cells, hc⟩ := own_typed HR1.out k hk
    subst e
    rw [HB1.out] at hc
    cases hc
  refine ⟨rfl, ⟨hB, v1, ?_, ?_, fun e => hne1 b e rfl⟩, HBL.out.setCell hB _, fun k c t fr hk h5 h107 => ?_⟩
  · exact heap_setCell_same w1 b 1 _ _ v1 HB1.out
  · have h4 := own_move HR1.out (w1 := w1.setCell ⟨b, 1, none⟩ v1) (fun k hk => heap_setCell_other w1 ⟨b, 1, none⟩ k v1 (hne1 k hk))
    have e : (Lib.byteCells (l ++ s.data.toList)).length = (l ++ s.data.toList).length := Lib.byteCells_length _
    rw [e]
    exact h4
  · have hkb : k ≠ b := fun e => by
      subst e
      rw [HHB.out] at hk
      cases hk
      exact h107 rfl
    rw [heap_setCell_other w1 ⟨b, 1, none⟩ k v1 hkb]
    refine HG.out.block k (Array.getElem?_eq_some_iff.1 hk).1 (fun e => ?_)
    obtain ⟨cells, hc⟩ := own_typed HHO.out k e.symm
    rw [hk] at hc
    cases hc
    exact h5 rfl
end Go.Proofs.Ytmiggjncmeomlaa.H

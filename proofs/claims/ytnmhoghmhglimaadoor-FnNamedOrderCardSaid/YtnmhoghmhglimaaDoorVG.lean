/-
  MERGED BY A PROGRAM OF THIS SESSION (wip/pack.py): Open, QN11, SBits, SComp, SArgs.
-/
import Derived.Test.YtnmhoghmhglimaaDoorVD
import Derived.Deep.Slices
import Derived.ChangeArms
import Derived.Test.YtnmhoghmhglimaaDoorVB
import Derived.Test.YtnmhoghmhglimaaDoorVE
import Derived.Test.YtnmhoghmhglimaaDoorVF
import Derived.Test.YtnmhoghmhglimaaDoorVC
/-
  ARGUMENTS as a row's claim holds them: values, arguments with names, lists of these and lists of lists, opened into the print's kinds.
-/
namespace Go.Proofs.YtnmhoghmhglimaaDoor.H
open Go.RowKit Go.Proofs.YtnmhoghmhglimaaDoorW.PrintWords Go.Proofs.YtnmhoghmhglimaaDoorW.PrintLast Go.Proofs.YtnmhoghmhglimaaDoorW.PrintMore Go.Proofs.YtnmhoghmhglimaaDoor.QN
set_option linter.unusedSimpArgs false
section
variable {H : Type} {enc : TypeId × Value → H} {w : World} {base : Nat} {spare : Nat → Bool} {held : Bool}

theorem opens_slice {α : Type} (d : Kd α) (z : α) {t e : TypeId} (ht : Tryd.prog.underlying t = some (.slice e)) (hsz : Tryd.prog.cellsOf e = d.sz) {fuel : Nat}
    (he : ∀ n, n < fuel → ∀ cs x, DataW.trod enc Tryd.prog w base spare held n e cs = some x → ∃ v, d.K w v cs) {cs : List Value} {x : DataW H × List MemPlace}
    (h : DataW.trod enc Tryd.prog w base spare held fuel t cs = some x) : ∃ (l : List α) (A : Option Addr) (c : Nat), cs = [.slice A l.length c] ∧ l.length ≤ c ∧ d.C w A l.length l := by
  rcases DataW.trod_slice ht h with ⟨rfl, _⟩ | ⟨a, len, cap, elems, rest, n, rfl, rfl, _, _, hl, hm, hlen, hel, _, _⟩
  · exact ⟨[], none, 0, rfl, Nat.le_refl _, Kd.C_nil _ _⟩
  · have each : ∀ i, i < len → ∃ v : α, ∃ c, w.cells? base (a.add (i * d.sz)) d.sz = some c ∧ d.K w v c := by
      intro i hi
      have h1 := hel i hi
      rw [List.getElem?_eq_getElem (by omega), Option.bind_eq_some_iff, hsz] at h1
      obtain ⟨c, h2, h3⟩ := h1
      obtain ⟨v, hv⟩ := he n (Nat.lt_succ_self n) _ _ h3
      exact ⟨v, c, h2, hv⟩
    haveI : Inhabited α := ⟨z⟩
    obtain ⟨V, hV⟩ := Deep.choose_lt each
    have hll : ((List.range len).map V).length = len := by simp
    refine ⟨(List.range len).map V, some a, cap, by rw [hll], by rw [hll]; exact hl, rfl, by rw [hll]; simp only [maxLen] at hm; omega, fun _ => ⟨a, rfl, fun j p hj => ?_⟩⟩
    obtain ⟨hj1, hj2⟩ := List.getElem?_eq_some_iff.1 hj
    rw [hll] at hj1
    rw [List.getElem_map, List.getElem_range] at hj2
    obtain ⟨c, h2, h3⟩ := hV j hj1
    obtain ⟨_, hcl, hcc⟩ := World.cells?_some h2
    refine ⟨c, hcl, by rw [← hj2]; exact h3, fun i u hu => ?_⟩
    have hi : i < c.length := (List.getElem?_eq_some_iff.1 hu).1
    have h4 := hcc i (by omega)
    rw [add_add] at h4
    rw [h4]
    exact hu
set_option maxRecDepth 100000 in
theorem opens_val : ∀ (fuel : Nat) (cs : List Value) (x : DataW H × List MemPlace), DataW.trod enc Tryd.prog w base spare held fuel 52 cs = some x → ∃ v : S52, k52.K w v cs := by
  intro fuel
  induction fuel using Nat.strongRecOn with
  | _ fuel ih =>
    intro cs x h
    obtain ⟨xs, n, rfl, _, hl, hxl, hf⟩ := DataW.trod_struct Tryd.underlying52 h
    rw [show Tryd.prog.cellsOf 52 = 4 by kernel_rfl] at hl
    match cs, hl, xs, hxl with
    | [v0, v1, v2, v3], _, [y0, y1, y2, y3], _ =>
      have g0 : DataW.trod enc Tryd.prog w base spare held n 3 (List.take (Tryd.prog.cellsOf 3) (List.drop 0 [v0, v1, v2, v3])) = some y0 := hf 0 _ rfl
      have g1 : DataW.trod enc Tryd.prog w base spare held n 2 (List.take (Tryd.prog.cellsOf 2) (List.drop 1 [v0, v1, v2, v3])) = some y1 := hf 1 _ rfl
      have g2 : DataW.trod enc Tryd.prog w base spare held n 9 (List.take (Tryd.prog.cellsOf 9) (List.drop 2 [v0, v1, v2, v3])) = some y2 := hf 2 _ rfl
      have g3 : DataW.trod enc Tryd.prog w base spare held n 42 (List.take (Tryd.prog.cellsOf 42) (List.drop 3 [v0, v1, v2, v3])) = some y3 := hf 3 _ rfl
      rw [show Tryd.prog.cellsOf 3 = 1 by kernel_rfl] at g0
      rw [show Tryd.prog.cellsOf 2 = 1 by kernel_rfl] at g1
      rw [show Tryd.prog.cellsOf 9 = 1 by kernel_rfl] at g2
      rw [show Tryd.prog.cellsOf 42 = 1 by kernel_rfl] at g3
      simp only [List.drop_zero, List.drop_succ_cons, List.take_succ_cons, List.take_zero, List.getElem?_cons_zero, List.getElem?_cons_succ] at g0 g1 g2 g3
      obtain ⟨n0, e0, _⟩ := DataW.trod_int Tryd.underlying3 g0
      obtain ⟨n1, e1, _⟩ := DataW.trod_int Tryd.underlying2 g1
      obtain ⟨s2, e2, _⟩ := DataW.trod_string Tryd.underlying9 g2
      obtain ⟨l, A, c, e3, hlc, hC⟩ := opens_slice k52 z52 Tryd.underlying42 (by kernel_rfl) (fun m hm cs x hx => ih m (by omega) cs x hx) g3
      injection e0 with e0
      injection e1 with e1
      injection e2 with e2
      injection e3 with e3
      subst e0 e1 e2 e3
      exact ⟨⟨n0, n1, s2, l⟩, k52_mk w ⟨n0, n1, s2, l⟩ hlc hC⟩
set_option maxRecDepth 100000 in
theorem opens_arg (fuel : Nat) (cs : List Value) (x : DataW H × List MemPlace) (h : DataW.trod enc Tryd.prog w base spare held fuel 54 cs = some x) : ∃ v : S54, k54.K w v cs := by
  obtain ⟨xs, n, rfl, _, hl, hxl, hf⟩ := DataW.trod_struct Tryd.underlying54 h
  rw [show Tryd.prog.cellsOf 54 = 5 by kernel_rfl] at hl
  match cs, hl, xs, hxl with
  | [v0, v1, v2, v3, v4], _, [y0, y1], _ =>
    have g0 : DataW.trod enc Tryd.prog w base spare held n 9 (List.take (Tryd.prog.cellsOf 9) (List.drop 0 [v0, v1, v2, v3, v4])) = some y0 := hf 0 _ rfl
    have g1 : DataW.trod enc Tryd.prog w base spare held n 52 (List.take (Tryd.prog.cellsOf 52) (List.drop 1 [v0, v1, v2, v3, v4])) = some y1 := hf 1 _ rfl
    rw [show Tryd.prog.cellsOf 9 = 1 by kernel_rfl] at g0
    rw [show Tryd.prog.cellsOf 52 = 4 by kernel_rfl] at g1
    simp only [List.drop_zero, List.drop_succ_cons, List.take_succ_cons, List.take_zero, List.getElem?_cons_zero, List.getElem?_cons_succ] at g0 g1
    obtain ⟨s0, e0, _⟩ := DataW.trod_string Tryd.underlying9 g0
    obtain ⟨v, hv⟩ := opens_val _ _ _ g1
    obtain ⟨A, c, e1, hlc, hC⟩ := k52_open hv
    injection e0 with e0
    subst e0
    rw [e1]
    exact ⟨⟨s0, v⟩, k54_mk w ⟨s0, v⟩ hlc hC⟩
theorem opens_args {fuel : Nat} {cs : List Value} {x : DataW H × List MemPlace} (h : DataW.trod enc Tryd.prog w base spare held fuel 40 cs = some x) : ∃ (l : List S54) (A : Option Addr) (c : Nat), cs = [.slice A l.length c] ∧ l.length ≤ c ∧ k54.C w A l.length l :=
  opens_slice k54 z54 Tryd.underlying40 (by kernel_rfl) (fun n _ cs x hx => opens_arg n cs x hx) h
end
end Go.Proofs.YtnmhoghmhglimaaDoor.H
-- WRITTEN BY A PROGRAM OF THIS SESSION (wip/print2.py): the print, with contracts of this session's own let in. Not trusted: Lean checks it.
namespace Go.Proofs.YtnmhoghmhglimaaDoor.QN
open Go.RowKit Go.Proofs.YtnmhoghmhglimaaDoorW.PrintWords Go.Proofs.YtnmhoghmhglimaaDoorW.PrintLast Go.Proofs.YtnmhoghmhglimaaDoorW.PrintMore
attribute [local go_sem] max2_int min2_int max_two min_two max_three min_three max_four min_four   -- for this text's walks alone
set_option linter.unusedVariables false
set_option linter.unusedSimpArgs false

open Go.Proofs.YtnmhoghmhglimaaDoor.H
/-! ### laws_FnNamed: function 11 -/
mutual
def laws_FnNamed.j0 : Nat → ByteArray → List (S54) → Bool → Option (Bool)
  | 0, _, _, _ => none
  | k + 1, x0, x1, x19 => if x19 = true then (some true) else (if (x0.size : Int) > 1000 then (laws_FnNamed.j1 k x0 x1 true) else ((spec_ArgsRight.f k x1).bind fun t189 => (laws_FnNamed.j1 k x0 x1 (!t189))))
def laws_FnNamed.j1 : Nat → ByteArray → List (S54) → Bool → Option (Bool)
  | 0, _, _, _ => none
  | k + 1, x0, x1, x27 => if x27 = true then (some true) else ((spec_NamedOf.f k 1 x0 x1).bind fun bt190 => (if bt190.2.2.2 = true then ((impl_Named.f x0 x1).bind fun bt196 => (if (bt196.2.2 == bt190.2.2.1) = true then (if bt190.2.2.1 = true then (if bt196.1.toList = bt190.1.toList then ((spec_EqualValues.f bt190.2.1 bt196.2.1).bind fun t201 => (some t201)) else (some false)) else (some true)) else (some false))) else (some true)))
end
def laws_FnNamed.f (k : Nat) (a0 : ByteArray) (l1 : List (S54)) : Option (Bool) := if (a0.size : Int) > 2147483647 then (laws_FnNamed.j0 k a0 l1 true) else (laws_FnNamed.j0 k a0 l1 (decide ((l1.length : Int) > 2147483647)))
/-! ### laws_zzFits3: function 39 -/
def laws_zzFits3.f (a0_0 : ByteArray) (a0_1 : Int) (a0_2 : Int) (a0_3 : ByteArray) (l0_4 : List (S52)) : Option (Bool) := if (a0_0.size : Int) > 2147483647 then (some false) else (some true)
set_option maxHeartbeats 8000000 in
set_option maxRecDepth 100000 in
theorem laws_zzFits3.calls (a0_0 : ByteArray) (a0_1 : Int) (a0_2 : Int) (a0_3 : ByteArray) (A0_4 : Option Addr) (c0_4 : Nat) (l0_4 : List (S52)) (r : Bool) (w : World) (hr0_4 : Kd.C k52 w A0_4 l0_4.length l0_4) (hc0_4 : l0_4.length ≤ c0_4) (h : laws_zzFits3.f a0_0 a0_1 a0_2 a0_3 l0_4 = some r) :
    Calls Tryd.prog 39 #[.agg #[.string a0_0, .int .i64 a0_1, .int .i64 a0_2, .string a0_3, .slice A0_4 l0_4.length c0_4]] w fun e w' => e = .returned (.bool r) ∧ Below w.heap.size w w' := by
  have hu54 := Tryd.underlying54
  have HR0_4 := Aside0.mk hr0_4
  have HC0_4 := Aside0.mk hc0_4
  clear hr0_4 hc0_4
  have HB := Aside0.mk (Below.refl w.heap.size w)
  have H : (if (a0_0.size : Int) > 2147483647 then (some false) else (some true)) = some r := h
  clear h
  by_cases c2 : (a0_0.size : Int) > 2147483647
  · rw [if_pos c2] at H
    have c2b0 : decide (2147483647 < (a0_0.size : Int)) = true := decide_eq_true c2
    have c2b1 : decide (2147483647 < a0_0.size) = true := decide_eq_true (by omega)
    clear c2
    obtain rfl := Option.some.inj H
    go_enter Tryd.func39, Tryd.ntmps39
    go_wp2_with (first | ((with_reducible refine gate_dst (N := 1) rfl ?_); refine box_event ?hg (N := 1) ?hd (cs := #[.string a0_0, .int .i64 a0_1, .int .i64 a0_2, .string a0_3, .slice A0_4 l0_4.length c0_4]) (t := 54) ?hr ?_; (case hd => rfl); (case hg => rfl); (case hr => first | (go_simp; done) | (go_simp; rfl)); intro gb202 hg w3 hbox hb; have n0_ := Aside0.mk (below_step (by repeat (first | (with_reducible first | exact HB.out | apply below_alloc | apply pw_below_drewN | apply below_drew1) | exact HB.out)) hb); have n1_ := Aside0.mk (hbox); have n2_ := Aside0.mk ((by rw [hg]; exact (below_size (by repeat (first | (with_reducible first | exact HB.out | apply below_alloc | apply pw_below_drewN | apply below_drew1) | exact HB.out))) : w.heap.size ≤ gb202)); have n3_ := Aside0.mk ((by rw [hg]; exact (below_size (by repeat (first | (with_reducible first | exact HB.out | apply below_alloc | apply pw_below_drewN | apply below_drew1) | exact HB.out))) : w.heap.size ≤ gb202)); clear HB; have HB := n0_; have BK202 := n1_; have GW202 := n2_; have GE202 := n3_; clear n0_ n1_ n2_ n3_; clear hb hbox hg; have hcz4_0 : w3.cell? ⟨gb202, 0, none⟩ = some (.string a0_0) := (blk_cell BK202.out 0).trans rfl; have hcz4_1 : w3.cell? ⟨gb202, 1, none⟩ = some (.int .i64 a0_1) := (blk_cell BK202.out 1).trans rfl; have hcz4_2 : w3.cell? ⟨gb202, 2, none⟩ = some (.int .i64 a0_2) := (blk_cell BK202.out 2).trans rfl; have hcz4_3 : w3.cell? ⟨gb202, 3, none⟩ = some (.string a0_3) := (blk_cell BK202.out 3).trans rfl; have hcz4_4 : w3.cell? ⟨gb202, 4, none⟩ = some (.slice A0_4 l0_4.length c0_4) := (blk_cell BK202.out 4).trans rfl; have hfz4_0 := blk_frozen BK202.out 0; have hfz4_1 := blk_frozen BK202.out 1; have hfz4_2 := blk_frozen BK202.out 2; have hfz4_3 := blk_frozen BK202.out 3; have hfz4_4 := blk_frozen BK202.out 4))
    go_ret
    exact ⟨by first | rfl | (simp [errW_none, errW_some] <;> rfl) | (simp [*, errW_none, errW_some] <;> rfl), by repeat (first | (with_reducible first | exact HB.out | apply below_alloc | apply pw_below_drewN | apply below_drew1 | refine below_set ?_ GE202.out) | exact HB.out)⟩
  · rw [if_neg c2] at H
    have c2b0 : decide (2147483647 < (a0_0.size : Int)) = false := decide_eq_false c2
    have c2b1 : decide (2147483647 < a0_0.size) = false := decide_eq_false (by omega)
    clear c2
    obtain rfl := Option.some.inj H
    go_enter Tryd.func39, Tryd.ntmps39
    go_wp2_with (first | ((with_reducible refine gate_dst (N := 1) rfl ?_); refine box_event ?hg (N := 1) ?hd (cs := #[.string a0_0, .int .i64 a0_1, .int .i64 a0_2, .string a0_3, .slice A0_4 l0_4.length c0_4]) (t := 54) ?hr ?_; (case hd => rfl); (case hg => rfl); (case hr => first | (go_simp; done) | (go_simp; rfl)); intro gb202 hg w5 hbox hb; have n0_ := Aside0.mk (below_step (by repeat (first | (with_reducible first | exact HB.out | apply below_alloc | apply pw_below_drewN | apply below_drew1) | exact HB.out)) hb); have n1_ := Aside0.mk (hbox); have n2_ := Aside0.mk ((by rw [hg]; exact (below_size (by repeat (first | (with_reducible first | exact HB.out | apply below_alloc | apply pw_below_drewN | apply below_drew1) | exact HB.out))) : w.heap.size ≤ gb202)); have n3_ := Aside0.mk ((by rw [hg]; exact (below_size (by repeat (first | (with_reducible first | exact HB.out | apply below_alloc | apply pw_below_drewN | apply below_drew1) | exact HB.out))) : w.heap.size ≤ gb202)); clear HB; have HB := n0_; have BK202 := n1_; have GW202 := n2_; have GE202 := n3_; clear n0_ n1_ n2_ n3_; clear hb hbox hg; have hcz6_0 : w5.cell? ⟨gb202, 0, none⟩ = some (.string a0_0) := (blk_cell BK202.out 0).trans rfl; have hcz6_1 : w5.cell? ⟨gb202, 1, none⟩ = some (.int .i64 a0_1) := (blk_cell BK202.out 1).trans rfl; have hcz6_2 : w5.cell? ⟨gb202, 2, none⟩ = some (.int .i64 a0_2) := (blk_cell BK202.out 2).trans rfl; have hcz6_3 : w5.cell? ⟨gb202, 3, none⟩ = some (.string a0_3) := (blk_cell BK202.out 3).trans rfl; have hcz6_4 : w5.cell? ⟨gb202, 4, none⟩ = some (.slice A0_4 l0_4.length c0_4) := (blk_cell BK202.out 4).trans rfl; have hfz6_0 := blk_frozen BK202.out 0; have hfz6_1 := blk_frozen BK202.out 1; have hfz6_2 := blk_frozen BK202.out 2; have hfz6_3 := blk_frozen BK202.out 3; have hfz6_4 := blk_frozen BK202.out 4))
    go_ret
    exact ⟨by first | rfl | (simp [errW_none, errW_some] <;> rfl) | (simp [*, errW_none, errW_some] <;> rfl), by repeat (first | (with_reducible first | exact HB.out | apply below_alloc | apply pw_below_drewN | apply below_drew1 | refine below_set ?_ GE202.out) | exact HB.out)⟩

end Go.Proofs.YtnmhoghmhglimaaDoor.QN
/-
  PLAIN: the parts of a text, as the reference's Bits finds them (texts of at most 2^20 bytes).
-/
namespace Go.Proofs.YtnmhoghmhglimaaDoor.SC
open Go.RowKit Go.Proofs.YtnmhoghmhglimaaDoor.QN Go.Proofs.YtnmhoghmhglimaaDoor.H Go.Proofs.YtnmhoghmhglimaaDoorW.PrintWords Go.Proofs.YtnmhoghmhglimaaDoorW.PrintLast Go.Proofs.YtnmhoghmhglimaaDoorW.PrintMore
set_option linter.unusedVariables false
set_option linter.unusedSimpArgs false

def toS (l : List (Bool × List UInt8)) : List S72 := l.map fun p => ⟨p.1, ⟨p.2.toArray⟩⟩
theorem toS_app (l : List (Bool × List UInt8)) (b : Bool) (x : List UInt8) : toS l ++ [(⟨b, ⟨x.toArray⟩⟩ : S72)] = toS (l ++ [(b, x)]) := by simp [toS]
theorem toS_len (l : List (Bool × List UInt8)) : (toS l).length = l.length := by simp [toS]
theorem name_byte (b : UInt8) : spec_isNameByte.f (b.toNat : Int) = some (isNm b) := by
  have h : ∀ b : Fin 256, spec_isNameByte.f (b.val : Int) = some (isNm (UInt8.ofNat b.val)) := by decide +kernel
  have := h ⟨b.toNat, b.toNat_lt⟩
  simpa using this
theorem bt_n (s : ByteArray) (i : Nat) (h : i < s.size) : bt s (i : Int) = ((s[i]'h).toNat : Int) := by simp [bt, h]
theorem byte_eq {b c : UInt8} {k : Int} (hk : (c.toNat : Int) = k) : ((b.toNat : Int) = k) ↔ b = c := by
  rw [← hk]
  exact ⟨fun h => UInt8.toNat_inj.1 (Int.ofNat.inj h), fun h => by rw [h]⟩
theorem ge128 (b : UInt8) : ((b.toNat : Int) ≥ 128) ↔ 128 ≤ b.toNat := by omega
theorem take_none (l : List UInt8) (n : Nat) (h : l.take n = []) : n = 0 ∨ l.length = 0 := by
  have := congrArg List.length h
  rw [List.length_take] at this
  simp at this
  rcases this with h | h
  · exact .inl h
  · rw [h]
    exact .inr rfl
theorem drop_cons (s : ByteArray) (i : Nat) (h : i < s.size) : s.data.toList.drop i = (s[i]'h) :: s.data.toList.drop (i + 1) := by
  have hl : s.data.toList.length = s.size := Array.length_toList
  rw [List.drop_eq_getElem_cons (by omega)]
  rfl
theorem drop_end (s : ByteArray) (i : Nat) (h : s.size ≤ i) : s.data.toList.drop i = [] := by
  have hl : s.data.toList.length = s.size := Array.length_toList
  exact List.drop_eq_nil_of_le (by omega)
theorem tw_take (p : UInt8 → Bool) : ∀ l : List UInt8, l.takeWhile p = l.take (l.takeWhile p).length
  | [] => rfl
  | c :: t => by
    by_cases h : p c = true
    · rw [List.takeWhile_cons_of_pos h, List.length_cons, List.take_succ_cons, ← tw_take p t]
    · rw [List.takeWhile_cons_of_neg h]
      rfl
theorem dw_drop (p : UInt8 → Bool) : ∀ l : List UInt8, l.dropWhile p = l.drop (l.takeWhile p).length
  | [] => rfl
  | c :: t => by
    by_cases h : p c = true
    · rw [List.takeWhile_cons_of_pos h, List.dropWhile_cons_of_pos h, List.length_cons, List.drop_succ_cons, ← dw_drop p t]
    · rw [List.takeWhile_cons_of_neg h, List.dropWhile_cons_of_neg h]
      rfl
theorem tw_len (p : UInt8 → Bool) (l : List UInt8) : (l.takeWhile p).length ≤ l.length := (List.takeWhile_sublist p).length_le
theorem drop_len (s : ByteArray) (i : Nat) : (s.data.toList.drop i).length = s.size - i := by
  have hl : s.data.toList.length = s.size := Array.length_toList
  rw [List.length_drop, hl]
theorem extract_is (s : ByteArray) (i n : Nat) : s.extract i (i + n) = ⟨((s.data.toList.drop i).take n).toArray⟩ := by
  apply ByteArray.ext
  apply Array.ext'
  rw [ByteArray.data_extract, Array.toList_extract, List.extract_eq_take_drop, show i + n - i = n by omega]
theorem w64n (i : Nat) (k : Int) (m : Nat) (h : (i : Int) + k = (m : Int)) (hm : m ≤ 1048580) : wrap64 ((i : Int) + k) = ((m : Nat) : Int) := by
  rw [IntWalk.wrap64_in _ (by omega)]
  exact h
/-- The end of a run of bytes that are no colons, or bytes of names. -/
def upTo (p : UInt8 → Bool) (s : ByteArray) (i : Nat) : Nat := i + ((s.data.toList.drop i).takeWhile p).length
theorem upTo_le (p : UInt8 → Bool) (s : ByteArray) (i : Nat) (h : i ≤ s.size) : i ≤ upTo p s i ∧ upTo p s i ≤ s.size := by
  have := tw_len p (s.data.toList.drop i)
  rw [drop_len] at this
  unfold upTo
  omega
theorem upTo_step (p : UInt8 → Bool) (s : ByteArray) (i : Nat) (h : i < s.size) (hp : p (s[i]'h) = true) : upTo p s i = upTo p s (i + 1) := by
  unfold upTo
  rw [drop_cons s i h, List.takeWhile_cons_of_pos hp, List.length_cons]
  omega
theorem upTo_stop (p : UInt8 → Bool) (s : ByteArray) (i : Nat) (h : i < s.size) (hp : ¬ p (s[i]'h) = true) : upTo p s i = i := by
  unfold upTo
  rw [drop_cons s i h, List.takeWhile_cons_of_neg hp]
  rfl
theorem upTo_end (p : UInt8 → Bool) (s : ByteArray) (i : Nat) (h : s.size ≤ i) : upTo p s i = i := by
  unfold upTo
  rw [drop_end s i h]
  rfl

theorem l1_ev (s : ByteArray) (hs : s.size ≤ 1048576) (acc : List S72) (hacc : acc.length ≤ 1048576) (sure : Bool) (i : Nat) (V : List S72 × Bool × Bool) : ∀ (d x : Nat), s.size - x = d → i ≤ x → x ≤ s.size →
    Ev (fun k => spec_Bits.l0 k s (acc ++ [(⟨false, s.extract i (upTo (· != 58) s x)⟩ : S72)]) sure ((upTo (· != 58) s x : Nat) : Int)) V → Ev (fun k => spec_Bits.l1 k s acc sure (i : Int) (x : Int)) V := by
  intro d
  induction d with
  | zero =>
    intro x hd hi hx h
    have hx' : x = s.size := by omega
    rw [upTo_end _ s x (by omega)] at h
    refine Ev.step (fun k => ?_) h
    have c1 : ¬ (x : Int) < (s.size : Int) := by omega
    have c2 : (0 : Int) ≤ (i : Int) := by omega
    have c3 : (i : Int) ≤ (x : Int) := by omega
    have c4 : (x : Int) ≤ (s.size : Int) := by omega
    have c5 : acc.length < 5864062014805 := by omega
    simp only [spec_Bits.l1]
    rw [if_neg c1, if_pos c2, if_pos c3, if_pos c4, if_pos c5, Int.toNat_natCast, Int.toNat_natCast]
  | succ d ih =>
    intro x hd hi hx h
    have hlt : x < s.size := by omega
    have c1 : (x : Int) < (s.size : Int) := by omega
    have c0 : (0 : Int) ≤ (x : Int) := by omega
    have c2 : (0 : Int) ≤ (i : Int) := by omega
    have c3 : (i : Int) ≤ (x : Int) := by omega
    have c4 : (x : Int) ≤ (s.size : Int) := by omega
    have c5 : acc.length < 5864062014805 := by omega
    have e1 : wrap64 ((x : Int) + 1) = ((x + 1 : Nat) : Int) := w64n x 1 (x + 1) (by omega) (by omega)
    have ih' := ih (x + 1) (by omega) (by omega) (by omega)
    have hb := bt_n s x hlt
    by_cases h58 : s[x]'hlt = 58
    · rw [upTo_stop _ s x hlt (by rw [h58]; decide)] at h
      refine Ev.step (fun k => ?_) h
      simp only [spec_Bits.l1]
      rw [if_pos c1, if_pos c0, hb, if_pos ((byte_eq (c := 58) (k := 58) rfl).2 h58), if_pos c2, if_pos c3, if_pos c4, if_pos c5, Int.toNat_natCast, Int.toNat_natCast]
    · rw [upTo_step (· != 58) s x hlt (bne_iff_ne.2 h58)] at h
      refine Ev.step (fun k => ?_) (ih' h)
      simp only [spec_Bits.l1]
      rw [if_pos c1, if_pos c0, hb, if_neg (fun h => h58 ((byte_eq (c := 58) (k := 58) rfl).1 h)), e1]
theorem l2_ev (s : ByteArray) (hs : s.size ≤ 1048576) (acc : List S72) (sure : Bool) (i : Nat) (V : List S72 × Bool × Bool) : ∀ (d x : Nat), s.size - x = d → x ≤ s.size →
    Ev (fun k => spec_Bits.j3 k s acc sure (i : Int) ((upTo isNm s x : Nat) : Int)) V → Ev (fun k => spec_Bits.l2 k s acc sure (i : Int) (x : Int)) V := by
  intro d
  induction d with
  | zero =>
    intro x hd hx h
    rw [upTo_end _ s x (by omega)] at h
    refine Ev.step (fun k => ?_) h
    have c1 : ¬ (x : Int) < (s.size : Int) := by omega
    simp only [spec_Bits.l2]
    rw [if_neg c1]
  | succ d ih =>
    intro x hd hx h
    have hlt : x < s.size := by omega
    have c1 : (x : Int) < (s.size : Int) := by omega
    have c0 : (0 : Int) ≤ (x : Int) := by omega
    have e1 : wrap64 ((x : Int) + 1) = ((x + 1 : Nat) : Int) := w64n x 1 (x + 1) (by omega) (by omega)
    have ih' := ih (x + 1) (by omega) (by omega)
    have hb := bt_n s x hlt
    cases hn : isNm (s[x]'hlt) with
    | false =>
      rw [upTo_stop _ s x hlt (by rw [hn]; decide)] at h
      refine Ev.step (fun k => ?_) h
      simp only [spec_Bits.l2]
      rw [if_pos c1, if_pos c0, hb, name_byte, hn, Option.bind_some, if_neg (by decide)]
    | true =>
      rw [upTo_step _ s x hlt hn] at h
      refine Ev.step (fun k => ?_) (ih' h)
      simp only [spec_Bits.l2]
      rw [if_pos c1, if_pos c0, hb, name_byte, hn, Option.bind_some, if_pos rfl, e1]
def outOf (r : List (Bool × List UInt8) × Bool × Bool) : List S72 × Bool × Bool := (toS r.1, r.2.1, r.2.2)

set_option maxHeartbeats 3200000 in
theorem bits_ev (s : ByteArray) (hs : s.size ≤ 1048576) : ∀ (f i : Nat) (sure : Bool) (acc : List (Bool × List UInt8)), s.size - i ≤ f → i ≤ s.size → acc.length ≤ i →
    Ev (fun k => spec_Bits.l0 k s (toS acc) sure (i : Int)) (outOf (bitsF f (s.data.toList.drop i) sure acc)) := by
  intro f
  induction f with
  | zero =>
    intro i sure acc hf hi ha
    have c1 : ¬ (i : Int) < (s.size : Int) := by omega
    refine Ev.step (f := fun _ => some (toS acc, true, sure)) (fun k => ?_) (Ev.now _)
    simp only [spec_Bits.l0]
    rw [if_neg c1]
  | succ f ih =>
    intro i sure acc hf hi ha
    by_cases hlt : i < s.size
    · have c1 : (i : Int) < (s.size : Int) := by omega
      have c0 : (0 : Int) ≤ (i : Int) := by omega
      have e1 : wrap64 ((i : Int) + 1) = ((i + 1 : Nat) : Int) := w64n i 1 (i + 1) (by omega) (by omega)
      have e2 : wrap64 ((i : Int) + 2) = ((i + 2 : Nat) : Int) := w64n i 2 (i + 2) (by omega) (by omega)
      have c5 : (toS acc).length < 5864062014805 := by rw [toS_len]; omega
      have hb := bt_n s i hlt
      have hcons := drop_cons s i hlt
      by_cases h58 : s[i]'hlt = 58
      · by_cases hl : i + 1 = s.size
        · have hend : s.data.toList.drop i = [58] := by rw [hcons, h58, drop_end s (i + 1) (by omega)]
          have hl' : ((i + 1 : Nat) : Int) = (s.size : Int) := by omega
          rw [hend, bitsF.eq_def]
          refine Ev.step (f := fun _ => some (toS acc, true, false)) (fun k => ?_) (Ev.now _)
          simp only [spec_Bits.l0]
          rw [if_pos c1, if_pos c0, hb, if_pos ((byte_eq (c := 58) (k := 58) rfl).2 h58), e1, if_pos hl']
        · have hlt1 : i + 1 < s.size := by omega
          have hl' : ¬ ((i + 1 : Nat) : Int) = (s.size : Int) := by omega
          have c2 : (0 : Int) ≤ ((i + 1 : Nat) : Int) := by omega
          have c3 : ((i + 1 : Nat) : Int) < (s.size : Int) := by omega
          have hb1 := bt_n s (i + 1) hlt1
          have hcons1 := drop_cons s (i + 1) hlt1
          have hrest : s.data.toList.drop i = 58 :: (s[i + 1]'hlt1) :: s.data.toList.drop (i + 2) := by rw [hcons, h58, hcons1]
          have ihA := ih (i + 2) sure (acc ++ [(false, [58])]) (by omega) (by omega) (by simp; omega)
          rw [hrest, bitsF.eq_def]
          simp only [if_true]
          by_cases hd : s[i + 1]'hlt1 = 58
          · rw [if_pos hd]
            refine Ev.step (fun k => ?_) ihA
            simp only [spec_Bits.l0]
            rw [if_pos c1, if_pos c0, hb, if_pos ((byte_eq (c := 58) (k := 58) rfl).2 h58), e1, if_neg hl', if_pos c2, if_pos c3, hb1, if_pos ((byte_eq (c := 58) (k := 58) rfl).2 hd), if_pos c5, e2]
            rw [← toS_app]
          · rw [if_neg hd]
            by_cases hq : s[i + 1]'hlt1 = 61
            · rw [if_pos hq]
              have hemp : (!(s.data.toList.drop (i + 2)).isEmpty) = decide (((i + 2 : Nat) : Int) < (s.size : Int)) := by
                by_cases h2 : i + 2 < s.size
                · rw [drop_cons s (i + 2) h2, decide_eq_true (by omega)]
                  rfl
                · rw [drop_end s (i + 2) (by omega), decide_eq_false (by omega)]
                  rfl
              rw [hemp]
              have ihB := fun su => ih (i + 2) su (acc ++ [(false, [58, 61])]) (by omega) (by omega) (by simp; omega)
              refine Ev.step (fun k => ?_) (ihB _)
              simp only [spec_Bits.l0]
              rw [if_pos c1, if_pos c0, hb, if_pos ((byte_eq (c := 58) (k := 58) rfl).2 h58), e1, if_neg hl', if_pos c2, if_pos c3, hb1, if_neg (fun h => hd ((byte_eq (c := 58) (k := 58) rfl).1 h)), if_pos ((byte_eq (c := 61) (k := 61) rfl).2 hq), e2]
              cases sure with
              | true => rw [if_pos rfl, if_pos c5, ← toS_app, Bool.true_and]
              | false => rw [if_neg (by decide), if_pos c5, ← toS_app, Bool.false_and]
            · rw [if_neg hq]
              obtain ⟨j, hj⟩ : ∃ j, j = upTo isNm s (i + 1) := ⟨_, rfl⟩
              have hjl := upTo_le isNm s (i + 1) (by omega)
              rw [← hj] at hjl
              have htw : (s.data.toList.drop (i + 1)).takeWhile isNm = (s.data.toList.drop (i + 1)).take (j - (i + 1)) := by
                rw [hj, upTo, Nat.add_sub_cancel_left]
                exact tw_take _ _
              have hdw : (s.data.toList.drop (i + 1)).dropWhile isNm = s.data.toList.drop j := by
                rw [dw_drop, List.drop_drop, hj, upTo]
              have hex : s.extract (i + 1) j = ⟨((s.data.toList.drop (i + 1)).takeWhile isNm).toArray⟩ := by
                rw [htw, ← extract_is, show i + 1 + (j - (i + 1)) = j by omega]
              have hgo : Ev (fun k => spec_Bits.j3 k s (toS acc) sure (i : Int) (j : Int)) (outOf (match (s.data.toList.drop (i + 1)).dropWhile isNm with
                  | [] => (acc ++ [(true, (s.data.toList.drop (i + 1)).takeWhile isNm)], true, sure && ((s.data.toList.drop (i + 1)).getLast? != some 95 && (s.data.toList.drop (i + 1)).getLast? != some 46))
                  | e :: v => if e = 58 then ([], false, sure) else bitsF f (e :: v) (if 128 ≤ e.toNat then false else if (s.data.toList.drop (i + 1)).takeWhile isNm = [] ∧ v = [] then false else sure) (acc ++ [(true, (s.data.toList.drop (i + 1)).takeWhile isNm)]))) := by
                have d2 : ((i + 1 : Nat) : Int) ≤ (j : Int) := by omega
                have d3 : (j : Int) ≤ (s.size : Int) := by omega
                have ih2 := fun su => ih j su (acc ++ [(true, (s.data.toList.drop (i + 1)).takeWhile isNm)]) (by omega) (by omega) (by simp; omega)
                rw [hdw]
                by_cases hje : j = s.size
                · have hjI : (j : Int) = (s.size : Int) := by omega
                  have hne : 1 ≤ j := by omega
                  have ejm : wrap64 ((j : Int) - 1) = ((j - 1 : Nat) : Int) := w64n j (-1) (j - 1) (by omega) (by omega)
                  have m0 : (0 : Int) ≤ ((j - 1 : Nat) : Int) := by omega
                  have m1 : ((j - 1 : Nat) : Int) < (s.size : Int) := by omega
                  have hbl := bt_n s (j - 1) (by omega)
                  have hlast : (s.data.toList.drop (i + 1)).getLast? = some (s[j - 1]'(by omega)) := by
                    rw [List.getLast?_drop, if_neg (by rw [Array.length_toList]; show ¬ s.size ≤ i + 1; omega), List.getLast?_eq_getElem?]
                    rw [Array.length_toList, show s.data.size - 1 = j - 1 by show s.size - 1 = j - 1; omega, List.getElem?_eq_getElem (by rw [Array.length_toList]; show j - 1 < s.size; omega)]
                    rfl
                  have ih3 : ∀ su, Ev (fun k => spec_Bits.l0 k s (toS (acc ++ [(true, (s.data.toList.drop (i + 1)).takeWhile isNm)])) su (j : Int)) (toS (acc ++ [(true, (s.data.toList.drop (i + 1)).takeWhile isNm)]), true, su) := by
                    intro su
                    have h := ih2 su
                    rw [drop_end s j (by omega)] at h
                    cases f with
                    | zero => exact h
                    | succ f => exact h
                  rw [drop_end s j (by omega)]
                  simp only []
                  rw [hlast]
                  refine Ev.step (fun k => ?_) (ih3 _)
                  simp only [spec_Bits.j3]
                  rw [e1, if_pos c2, if_pos d2, if_pos d3, if_pos c5, Option.bind_some, if_pos hjI, Int.toNat_natCast, Int.toNat_natCast, hex, toS_app, ejm, if_pos m0, if_pos m1, hbl]
                  cases sure with
                  | false => rw [if_neg (by decide), Bool.false_and]
                  | true =>
                    rw [if_pos rfl, Bool.true_and]
                    by_cases h95 : s[j - 1]'(by omega) = 95
                    · rw [if_pos ((byte_eq (c := 95) (k := 95) rfl).2 h95), h95]
                      rfl
                    · rw [if_neg (fun h => h95 ((byte_eq (c := 95) (k := 95) rfl).1 h))]
                      have ea : (some (s[j - 1]'(by omega)) != some (95 : UInt8)) = true := by simpa using h95
                      rw [ea, Bool.true_and]
                      congr 1
                      by_cases h46 : s[j - 1]'(by omega) = 46
                      · rw [h46]
                        rfl
                      · have eb : (some (s[j - 1]'(by omega)) != some (46 : UInt8)) = true := by simpa using h46
                        rw [eb, bne_iff_ne]
                        exact fun h => h46 ((byte_eq (c := 46) (k := 46) rfl).1 h)
                · have hjlt : j < s.size := by omega
                  have hjI : ¬ (j : Int) = (s.size : Int) := by omega
                  have hzn : j ≠ i + 1 → ¬ (j - (i + 1) = 0 ∨ (s.data.toList.drop (i + 1)).length = 0) := by
                    rw [drop_len]
                    omega
                  have j0 : (0 : Int) ≤ (j : Int) := by omega
                  have j1 : (j : Int) < (s.size : Int) := by omega
                  have hbj := bt_n s j hjlt
                  have ejp : wrap64 ((j : Int) + 1) = ((j + 1 : Nat) : Int) := w64n j 1 (j + 1) (by omega) (by omega)
                  rw [drop_cons s j hjlt] at ih2 ⊢
                  simp only []
                  by_cases he : s[j]'hjlt = 58
                  · rw [if_pos he]
                    refine Ev.step (f := fun _ => some ([], false, sure)) (fun k => ?_) (Ev.now _)
                    simp only [spec_Bits.j3]
                    rw [e1, if_pos c2, if_pos d2, if_pos d3, if_pos c5, Option.bind_some, if_neg hjI, if_pos j0, if_pos j1, hbj, if_pos ((byte_eq (c := 58) (k := 58) rfl).2 he)]
                  · rw [if_neg he]
                    refine Ev.step (fun k => ?_) (ih2 _)
                    simp only [spec_Bits.j3]
                    rw [e1, if_pos c2, if_pos d2, if_pos d3, if_pos c5, Option.bind_some, if_neg hjI, if_pos j0, if_pos j1, hbj, if_neg (fun h => he ((byte_eq (c := 58) (k := 58) rfl).1 h)), Int.toNat_natCast, Int.toNat_natCast, hex, toS_app]
                    by_cases h128 : 128 ≤ (s[j]'hjlt).toNat
                    · rw [if_pos ((ge128 _).2 h128), if_pos h128]
                    · rw [if_neg (fun h => h128 ((ge128 _).1 h)), if_neg h128]
                      by_cases hji : j = i + 1
                      · have hz : (s.data.toList.drop (i + 1)).takeWhile isNm = [] := by rw [htw, hji, Nat.sub_self, List.take_zero]
                        rw [if_pos (Int.ofNat_inj.2 hji), ejp]
                        by_cases hl2 : j + 1 = s.size
                        · rw [if_pos (Int.ofNat_inj.2 hl2), if_pos ⟨hz, drop_end s (j + 1) (Nat.le_of_eq hl2.symm)⟩]
                        · rw [if_neg (fun h => hl2 (Int.ofNat_inj.1 h)), if_neg (fun h => by
                            have := h.2
                            rw [drop_cons s (j + 1) (Nat.lt_of_le_of_ne hjlt hl2)] at this
                            cases this)]
                      · rw [if_neg (fun h => hji (Int.ofNat_inj.1 h)), if_neg (fun h => by
                          rw [htw] at h
                          exact hzn hji (take_none _ _ h.1))]
              rw [hj] at hgo
              have h2 := l2_ev s hs (toS acc) sure i _ (s.size - (i + 1)) (i + 1) rfl (by omega) hgo
              rw [hcons1] at h2
              refine Ev.step (fun k => ?_) h2
              simp only [spec_Bits.l0]
              rw [if_pos c1, if_pos c0, hb, if_pos ((byte_eq (c := 58) (k := 58) rfl).2 h58), e1, if_neg hl', if_pos c2, if_pos c3, hb1, if_neg (fun h => hd ((byte_eq (c := 58) (k := 58) rfl).1 h)), if_neg (fun h => hq ((byte_eq (c := 61) (k := 61) rfl).1 h))]
      · obtain ⟨j, hj⟩ : ∃ j, j = upTo (· != 58) s i := ⟨_, rfl⟩
        have hjl := upTo_le (· != 58) s i hi
        have hst := upTo_step (· != 58) s i hlt (bne_iff_ne.2 h58)
        have hjl2 := upTo_le (· != 58) s (i + 1) (by omega)
        rw [← hst, ← hj] at hjl2
        rw [← hj] at hjl
        have htw : (s.data.toList.drop i).takeWhile (· != 58) = (s.data.toList.drop i).take (j - i) := by
          rw [hj, upTo, Nat.add_sub_cancel_left]
          exact tw_take _ _
        have hdw : (s.data.toList.drop i).dropWhile (· != 58) = s.data.toList.drop j := by
          rw [dw_drop, List.drop_drop, hj, upTo]
        have hex : s.extract i j = ⟨((s.data.toList.drop i).takeWhile (· != 58)).toArray⟩ := by
          rw [htw, ← extract_is, show i + (j - i) = j by omega]
        have ihC := ih j sure (acc ++ [(false, (s.data.toList.drop i).takeWhile (· != 58))]) (by omega) (by omega) (by simp; omega)
        rw [← toS_app, ← hex, ← hdw, hj] at ihC
        have h1 := l1_ev s hs (toS acc) (by rw [toS_len]; omega) sure i _ (s.size - i) i rfl (by omega) hi ihC
        have hb2 : bitsF (f + 1) (s.data.toList.drop i) sure acc = bitsF f ((s.data.toList.drop i).dropWhile (· != 58)) sure (acc ++ [(false, (s.data.toList.drop i).takeWhile (· != 58))]) := by
          rw [hcons, bitsF.eq_def]
          simp only []
          rw [if_neg h58]
        rw [hb2]
        refine Ev.step (fun k => ?_) h1
        simp only [spec_Bits.l0]
        rw [if_pos c1, if_pos c0, hb, if_neg (fun h => h58 ((byte_eq (c := 58) (k := 58) rfl).1 h))]
    · have c1 : ¬ (i : Int) < (s.size : Int) := by omega
      rw [drop_end s i (by omega)]
      refine Ev.step (f := fun _ => some (toS acc, true, sure)) (fun k => ?_) (Ev.now _)
      simp only [spec_Bits.l0]
      rw [if_neg c1]
/-! decimal -/

theorem str_one (u : Nat) : strOfNums [(u : Int)] = ⟨#[UInt8.ofNat u]⟩ := by
  apply ByteArray.ext
  simp [strOfNums]
theorem decimal_ev : ∀ (d n : Nat) (acc : List UInt8), n < 10 ^ (d + 1) → n ≤ 2147483648 → acc.length + d ≤ 1000 →
    Ev (fun k => spec_decimal.l0 k (n : Int) ⟨acc.toArray⟩) ⟨(Lib.decDigits n ++ acc).toArray⟩ := by
  have cat : ∀ (u : Nat) (acc : List UInt8), (⟨#[UInt8.ofNat u]⟩ : ByteArray) ++ ⟨acc.toArray⟩ = ⟨(UInt8.ofNat u :: acc).toArray⟩ := fun u acc => ByteArray.ext (by simp)
  have one : ∀ n : Nat, n < 10 → ∀ acc : List UInt8, acc.length ≤ 1000 → Ev (fun k => spec_decimal.l0 k (n : Int) ⟨acc.toArray⟩) ⟨(Lib.decDigits n ++ acc).toArray⟩ := by
    intro n h acc ha
    refine Ev.step (f := fun _ => some ⟨(Lib.decDigits n ++ acc).toArray⟩) (fun k => ?_) (Ev.now _)
    have e : (wrap64 (48 + (n : Int))) % 256 = ((48 + n : Nat) : Int) := by rw [w64 _ (by omega)]; omega
    simp only [spec_decimal.l0]
    rw [if_neg (by omega), Option.bind_some, e, str_one, if_pos (by show 1 + acc.length ≤ 9223372036854775807; omega), cat, Lib.decDigits_one h]
    rfl
  intro d
  induction d with
  | zero =>
    intro n acc h _ ha
    exact one n (by omega) acc (by omega)
  | succ d ih =>
    intro n acc h hn ha
    by_cases h9 : n < 10
    · exact one n h9 acc (by omega)
    · have h2 : n / 10 < 10 ^ (d + 1) := by rw [Nat.div_lt_iff_lt_mul (by omega)]; rw [Nat.pow_succ] at h; omega
      have hi := ih (n / 10) (UInt8.ofNat (48 + n % 10) :: acc) h2 (by omega) (by simp; omega)
      rw [Lib.decDigits, dif_neg h9, List.append_assoc]
      refine Ev.step (fun k => ?_) hi
      have e : (wrap64 (48 + (Int.tmod (n : Int) 10))) % 256 = ((48 + n % 10 : Nat) : Int) := by
        have : Int.tmod (n : Int) 10 = ((n % 10 : Nat) : Int) := rfl
        rw [this, w64 _ (by omega)]; omega
      have e2 : wrap64 (Int.tdiv (n : Int) 10) = ((n / 10 : Nat) : Int) := by
        have : Int.tdiv (n : Int) 10 = ((n / 10 : Nat) : Int) := rfl
        rw [this, w64 _ (by omega)]
      simp only [spec_decimal.l0]
      rw [if_pos (by omega), Option.bind_some, e, str_one, if_pos (by show 1 + acc.length ≤ 9223372036854775807; omega), cat, e2]
theorem decimal_is (n : Nat) (hn : n ≤ 2147483648) : Ev (fun k => spec_decimal.f k (n : Int)) ⟨(Lib.itoa (n : Int)).toArray⟩ := by
  have hi : Lib.itoa (n : Int) = Lib.decDigits n := by rw [Lib.itoa, if_neg (by omega)]; rfl
  have h := decimal_ev 10 n [] (by omega) hn (by simp)
  rw [List.append_nil] at h
  rw [hi]
  refine Ev.step (fun k => ?_) h
  simp only [spec_decimal.f]
  rw [if_neg (by omega)]
end Go.Proofs.YtnmhoghmhglimaaDoor.SC
/-
  PLAIN: the reference's Compiled comes to what compileNamedQuery comes to, where it is sure (texts of at most 2^20 bytes).
-/
namespace Go.Proofs.YtnmhoghmhglimaaDoor.SC
open Go.RowKit Go.Proofs.YtnmhoghmhglimaaDoor.QN Go.Proofs.YtnmhoghmhglimaaDoor.H Go.Proofs.YtnmhoghmhglimaaDoorW.PrintWords Go.Proofs.YtnmhoghmhglimaaDoorW.PrintLast Go.Proofs.YtnmhoghmhglimaaDoorW.PrintMore
set_option linter.unusedVariables false
set_option linter.unusedSimpArgs false

def bytesL (l : List (List UInt8)) : List ByteArray := l.map fun x => ⟨x.toArray⟩
theorem cat_mk (a b : List UInt8) : (⟨a.toArray⟩ : ByteArray) ++ ⟨b.toArray⟩ = ⟨(a ++ b).toArray⟩ := ByteArray.ext (by simp)
theorem mk_size (a : List UInt8) : (⟨a.toArray⟩ : ByteArray).size = a.length := rfl
theorem bits_len : ∀ (f : Nat) (l : List UInt8) (sure : Bool) (acc : List (Bool × List UInt8)), l.length ≤ f → (bitsF f l sure acc).1.length ≤ acc.length + l.length ∧ ∀ p ∈ (bitsF f l sure acc).1, p ∈ acc ∨ p.2.length ≤ l.length + 1
  | 0, l, sure, acc, hf => ⟨by simp [bitsF], fun p hp => .inl hp⟩
  | f + 1, [], sure, acc, hf => ⟨by simp [bitsF], fun p hp => .inl hp⟩
  | f + 1, c :: t, sure, acc, hf => by
    have key : ∀ (l' : List UInt8) (su : Bool) (b : Bool) (x : List UInt8), l'.length + 1 ≤ (c :: t).length → x.length ≤ (c :: t).length + 1 → (bitsF f l' su (acc ++ [(b, x)])).1.length ≤ acc.length + (c :: t).length ∧ ∀ p ∈ (bitsF f l' su (acc ++ [(b, x)])).1, p ∈ acc ∨ p.2.length ≤ (c :: t).length + 1 := by
      intro l' su b x h1 h2
      obtain ⟨h3, h4⟩ := bits_len f l' su (acc ++ [(b, x)]) (by simp only [List.length_cons] at h1 hf ⊢; omega)
      refine ⟨by rw [List.length_append] at h3; simp only [List.length_cons, List.length_nil] at h1 h3 ⊢; omega, fun p hp => ?_⟩
      rcases h4 p hp with h5 | h5
      · rcases List.mem_append.1 h5 with h6 | h6
        · exact .inl h6
        · rw [List.mem_singleton.1 h6]
          exact .inr h2
      · exact .inr (by omega)
    rw [bitsF.eq_def]
    simp only []
    split
    · split
      · exact ⟨by simp, fun p hp => .inl hp⟩
      · rename_i d u
        split
        · exact key u sure false [58] (by simp) (by simp)
        · split
          · exact key u _ false [58, 61] (by simp) (by simp)
          · have ht := (List.takeWhile_sublist isNm (l := d :: u)).length_le
            split
            · refine ⟨by simp, fun p hp => ?_⟩
              rcases List.mem_append.1 hp with h6 | h6
              · exact .inl h6
              · rw [List.mem_singleton.1 h6]
                refine .inr ?_
                simp only [List.length_cons] at ht ⊢
                omega
            · rename_i e v hd
              have hd2 := (List.dropWhile_sublist isNm (l := d :: u)).length_le
              rw [hd] at hd2
              split
              · exact ⟨by simp, fun p hp => by simp at hp⟩
              · exact key (e :: v) _ true _ (by simp only [List.length_cons] at hd2 ⊢; omega) (by simp only [List.length_cons] at ht ⊢; omega)
    · rename_i hc
      have ht := (List.takeWhile_sublist (· != (58 : UInt8)) (l := c :: t)).length_le
      have hd2 : ((c :: t).dropWhile (· != (58 : UInt8))).length ≤ t.length := by
        rw [List.dropWhile_cons, if_pos (bne_iff_ne.2 hc)]
        exact (List.dropWhile_sublist _).length_le
      exact key _ _ false _ (by simp only [List.length_cons]; omega) (by omega)
theorem mark_is (kind : Int) (n : Nat) (hn : n ≤ 1048577) (nm : List UInt8) (hl : nm.length ≤ 1048577) :
    Ev (fun k => spec_Mark.f k kind (n : Int) ⟨nm.toArray⟩) ⟨(markC kind n nm).toArray⟩ := by
  have hd := decimal_is n (by omega)
  have hil := Lib.itoa_length_le (n : Int) (by omega) (by omega)
  have b1 : 1 + (⟨(Lib.itoa (n : Int)).toArray⟩ : ByteArray).size ≤ 9223372036854775807 := by rw [mk_size]; omega
  have b2 : 2 + (⟨(Lib.itoa (n : Int)).toArray⟩ : ByteArray).size ≤ 9223372036854775807 := by rw [mk_size]; omega
  have b3 : 1 + (⟨nm.toArray⟩ : ByteArray).size ≤ 9223372036854775807 := by rw [mk_size]; omega
  unfold markC
  by_cases h2 : kind = 2
  · subst h2
    refine Ev.congr (f := fun k => (spec_decimal.f k (n : Int)).bind fun t => (if 1 + t.size ≤ 9223372036854775807 then (some ((⟨#[36]⟩ : ByteArray) ++ t)) else (none))) (fun k => by simp only [spec_Mark.f]; rw [if_pos trivial]) (Ev.bind hd ?_)
    exact Ev.congr (f := fun _ => some ⟨(36 :: Lib.itoa (n : Int)).toArray⟩) (fun k => by rw [if_pos b1]; exact congrArg some (cat_mk [36] _)) (Ev.now _)
  by_cases h4 : kind = 4
  · subst h4
    refine Ev.congr (f := fun k => (spec_decimal.f k (n : Int)).bind fun t => (if 2 + t.size ≤ 9223372036854775807 then (some ((⟨#[64, 112]⟩ : ByteArray) ++ t)) else (none))) (fun k => by simp only [spec_Mark.f]; rw [if_neg (by decide), if_pos trivial]) (Ev.bind hd ?_)
    exact Ev.congr (f := fun _ => some ⟨(64 :: 112 :: Lib.itoa (n : Int)).toArray⟩) (fun k => by rw [if_pos b2]; exact congrArg some (cat_mk [64, 112] _)) (Ev.now _)
  by_cases h3 : kind = 3
  · subst h3
    exact Ev.congr (f := fun _ => some ⟨(58 :: nm).toArray⟩) (fun k => by simp only [spec_Mark.f]; rw [if_neg (by decide), if_neg (by decide), if_pos trivial, if_pos b3]; exact congrArg some (cat_mk [58] _)) (Ev.now _)
  · rw [if_neg h3, if_neg h2, if_neg h4]
    exact Ev.congr (f := fun _ => some ⟨#[63]⟩) (fun k => by simp only [spec_Mark.f]; rw [if_neg h2, if_neg h4, if_neg h3]) (Ev.now _)
theorem rd_toS (l : List (Bool × List UInt8)) (j : Nat) (h : j < l.length) : rd_T72 (toS l) (j : Int) = ⟨(l[j]'h).1, ⟨(l[j]'h).2.toArray⟩⟩ := by
  simp [rd_T72, toS, h]
theorem markC_le (kind : Int) (n : Nat) (nm : List UInt8) (hn : n ≤ 2097152) : (markC kind n nm).length ≤ 24 + nm.length := by
  have hl := Lib.itoa_length_le (n : Int) (by omega) (by omega)
  unfold markC
  split
  · simp
    omega
  · split
    · simp
      omega
    · split
      · simp
        omega
      · simp
        omega
theorem comp_ev (kind : Int) (sure : Bool) (l : List (Bool × List UInt8)) (hl : l.length ≤ 1048576) (hp : ∀ p ∈ l, p.2.length ≤ 1048577) : ∀ (d j : Nat) (nms : List (List UInt8)) (out : List UInt8), l.length - j = d → j ≤ l.length → nms.length ≤ j → out.length ≤ j * 2097152 →
    Ev (fun k => spec_Compiled.l0 k kind ⟨out.toArray⟩ (bytesL nms) true sure (toS l) (j : Int)) (⟨(foldB kind (l.drop j) nms out).2.toArray⟩, bytesL (foldB kind (l.drop j) nms out).1, true, sure) := by
  have hL : (toS l).length = l.length := toS_len l
  intro d
  induction d with
  | zero =>
    intro j nms out hd hj hn ho
    rw [List.drop_eq_nil_of_le (by omega)]
    have c1 : ¬ (j : Int) < ((toS l).length : Int) := by omega
    refine Ev.step (f := fun k => spec_Compiled.j1 k kind ⟨out.toArray⟩ (bytesL nms) true sure (toS l) (j : Int) false) (fun k => ?_) (Ev.step (f := fun _ => some (⟨out.toArray⟩, bytesL nms, true, sure)) (fun k => ?_) (Ev.now _))
    · simp only [spec_Compiled.l0]
      rw [if_neg c1]
    · simp only [spec_Compiled.j1]
      rw [if_neg (by decide), if_pos trivial]
  | succ d ih =>
    intro j nms out hd hj hn ho
    have hlt : j < l.length := by omega
    have c1 : (j : Int) < ((toS l).length : Int) := by omega
    have c0 : (0 : Int) ≤ (j : Int) := by omega
    have e1 : wrap64 ((j : Int) + 1) = ((j + 1 : Nat) : Int) := w64n j 1 (j + 1) (by omega) (by omega)
    have hrd := rd_toS l j hlt
    have hmem := hp _ (List.getElem_mem hlt)
    obtain ⟨p, hpe⟩ : ∃ p, p = l[j]'hlt := ⟨_, rfl⟩
    rw [List.drop_eq_getElem_cons hlt, ← hpe]
    rw [← hpe] at hrd hmem
    obtain ⟨b, x⟩ := p
    simp only [] at hrd hmem
    have hb : (bytesL nms).length = nms.length := by simp [bytesL]
    have hb2 : bytesL nms ++ [(⟨x.toArray⟩ : ByteArray)] = bytesL (nms ++ [x]) := by simp [bytesL]
    have hb3 : ((bytesL (nms ++ [x])).length : Int) = ((nms.length + 1 : Nat) : Int) := by simp [bytesL]
    have hb4 : (bytesL nms).length < 8796093022208 := by rw [hb]; omega
    have ho2 : out.length ≤ 1048576 * 2097152 := Nat.le_trans ho (Nat.mul_le_mul_right _ (by omega))
    cases b with
    | true =>
      have hm := mark_is kind (nms.length + 1) (by omega) x hmem
      have hml := markC_le kind (nms.length + 1) x (by omega)
      have hih := ih (j + 1) (nms ++ [x]) (out ++ markC kind (nms.length + 1) x) (by omega) (by omega) (by simp; omega) (by rw [List.length_append, Nat.succ_mul]; omega)
      have c4 : (⟨out.toArray⟩ : ByteArray).size + (⟨(markC kind (nms.length + 1) x).toArray⟩ : ByteArray).size ≤ 9223372036854775807 := by rw [mk_size, mk_size]; omega
      refine Ev.step (f := fun k => spec_Compiled.j1 k kind ⟨out.toArray⟩ (bytesL nms) true sure (toS l) (j : Int) true) (fun k => by simp only [spec_Compiled.l0]; rw [if_pos c1]) ?_
      refine Ev.step (f := fun k => (spec_Mark.f k kind ((nms.length + 1 : Nat) : Int) ⟨x.toArray⟩).bind fun t140 => (if (⟨out.toArray⟩ : ByteArray).size + t140.size ≤ 9223372036854775807 then (spec_Compiled.l0 k kind ((⟨out.toArray⟩ : ByteArray) ++ t140) (bytesL (nms ++ [x])) true sure (toS l) ((j + 1 : Nat) : Int)) else (none))) (fun k => ?_) (Ev.bind hm ?_)
      · simp only [spec_Compiled.j1]
        rw [if_pos trivial, if_pos c0, if_pos c1, hrd, if_pos rfl, if_pos hb4, hb2, Option.bind_some, hb3, e1]
      · refine Ev.congr (fun k => ?_) hih
        exact (if_pos c4).trans (by rw [cat_mk])
    | false =>
      have hih := ih (j + 1) nms (out ++ x) (by omega) (by omega) (by omega) (by rw [List.length_append, Nat.succ_mul]; omega)
      have c4 : (⟨out.toArray⟩ : ByteArray).size + (⟨x.toArray⟩ : ByteArray).size ≤ 9223372036854775807 := by rw [mk_size, mk_size]; omega
      refine Ev.step (f := fun k => spec_Compiled.j1 k kind ⟨out.toArray⟩ (bytesL nms) true sure (toS l) (j : Int) true) (fun k => by simp only [spec_Compiled.l0]; rw [if_pos c1]) ?_
      refine Ev.step (fun k => ?_) hih
      simp only [spec_Compiled.j1]
      rw [if_pos trivial, if_pos c0, if_pos c1, hrd, if_neg (show ¬ (false = true) by decide)]
      exact (if_pos c4).trans (by rw [cat_mk, e1])
theorem comp_no (kind : Int) (sure : Bool) (l : List S72) (out : ByteArray) (nms : List ByteArray) (j : Int) :
    Ev (fun k => spec_Compiled.l0 k kind out nms false sure l j) (⟨#[]⟩, [], false, sure) := by
  refine Ev.step (f := fun k => spec_Compiled.j1 k kind out nms false sure l j false) (fun k => ?_) (Ev.step (f := fun _ => some (⟨#[]⟩, [], false, sure)) (fun k => ?_) (Ev.now _))
  · simp only [spec_Compiled.l0]
    split <;> rfl
  · simp only [spec_Compiled.j1]
    rw [if_neg (by decide), if_neg (by decide)]
/-- The parts of a text. -/
def bitsOf (s : ByteArray) : List (Bool × List UInt8) × Bool × Bool := bitsF s.size s.data.toList true []
/-- What the reference answers. -/
def compOf (kind : Int) (s : ByteArray) : ByteArray × List ByteArray × Bool × Bool :=
  if (bitsOf s).2.1 = true then (⟨(foldB kind (bitsOf s).1 [] []).2.toArray⟩, bytesL (foldB kind (bitsOf s).1 [] []).1, true, (bitsOf s).2.2) else (⟨#[]⟩, [], false, (bitsOf s).2.2)
theorem compiled_is (kind : Int) (s : ByteArray) (hs : s.size ≤ 1048576) : Ev (fun k => spec_Compiled.f k kind s) (compOf kind s) := by
  have hl : s.data.toList.length = s.size := Array.length_toList
  have hb := bits_ev s hs s.size 0 true [] (by omega) (by omega) (by simp)
  rw [List.drop_zero] at hb
  obtain ⟨h1, h2⟩ := bits_len s.size s.data.toList true [] (by omega)
  have hb' : Ev (fun k => spec_Bits.f k s) (outOf (bitsOf s)) := hb
  change (bitsOf s).1.length ≤ _ at h1
  change ∀ p ∈ (bitsOf s).1, _ at h2
  rw [hl] at h1
  rw [hl] at h2
  refine Ev.congr (fun k => rfl) (Ev.bind hb' ?_)
  unfold compOf
  generalize bitsOf s = r at h1 h2
  obtain ⟨l, ok, sure⟩ := r
  simp only [outOf] at h1 h2 ⊢
  cases ok with
  | true =>
    rw [if_pos rfl]
    have := comp_ev kind sure l (by simp at h1; omega) (fun p hp => by
      rcases h2 p hp with h | h
      · simp at h
      · omega) l.length 0 [] [] (by omega) (by omega) (by simp) (by simp)
    rw [List.drop_zero] at this
    exact this
  | false =>
    rw [if_neg (by decide)]
    exact comp_no kind sure (toS l) _ _ _
/-- Where it is sure, the reference and the program answer alike. -/
theorem comp_sure (kind : Int) (s : ByteArray) (h : (bitsOf s).2.2 = true) :
    (∃ more, (bitsOf s).2.1 = true ∧ (bitsOf s).1 = more ∧ (∀ kind nm nms out, runC kind s.data.toList false nm nms out = some (foldB kind more nms out))) ∨ ((bitsOf s).2.1 = false ∧ ∀ kind nm nms out, runC kind s.data.toList false nm nms out = none) := by
  have hl : s.data.toList.length = s.size := Array.length_toList
  rcases run_bits s.size s.data.toList true [] (by omega) h with ⟨h1, more, h2, h3⟩ | ⟨h1, _, h3⟩
  · exact .inl ⟨more, h1, h2, h3⟩
  · exact .inr ⟨h1, h3⟩
/-! what the laws share -/
set_option linter.unusedVariables false
set_option linter.unusedSimpArgs false

theorem kind_is (a : Int) (h : (Lit.int .u8 a).wf = true) : ∃ kd, laws_kind9.f a = some kd ∧ 0 ≤ kd ∧ kd ≤ 4 := by
  have hr : 0 ≤ a ∧ a ≤ 255 := by
    simp [Lit.wf, IntKind.min, IntKind.max, IntKind.signed, IntKind.bits] at h
    omega
  refine ⟨_, rfl, ?_⟩
  rw [IntWalk.wrap64_in a (by omega)]
  obtain ⟨n, rfl⟩ := Int.eq_ofNat_of_zero_le hr.1
  have : Int.tmod (n : Int) 5 = ((n % 5 : Nat) : Int) := rfl
  rw [this, IntWalk.wrap64_in _ (by omega)]
  omega
theorem names_len (more : List (Bool × List UInt8)) : (nB more).length ≤ more.length := by
  induction more with
  | nil => exact Nat.le_refl _
  | cons p t ih =>
    obtain ⟨b, x⟩ := p
    cases b with
    | true =>
      show (nB t).length + 1 ≤ t.length + 1
      omega
    | false =>
      show (nB t).length ≤ t.length + 1
      omega
/-- Where the reference is sure. -/
theorem law_sure (s : ByteArray) (hs : s.size ≤ 1048576) (h : (bitsOf s).2.2 = true) :
    (∃ more : List (Bool × List UInt8), (bitsOf s).1 = more ∧ more.length ≤ s.size ∧ (∀ p ∈ more, p.2.length ≤ s.size + 1) ∧ (∀ p ∈ more, ∀ c ∈ p.2, c ∈ s.data.toList) ∧ (one58 s.data.toList = true → flatB more = s.data.toList) ∧ ∀ kind : Int, 0 ≤ kind → kind ≤ 4 →
      compOf kind s = (⟨(tB kind more 0).toArray⟩, bytesL (nB more), true, true) ∧ impl_Compiled.f kind s = some (⟨(tB kind more 0).toArray⟩, bytesL (nB more), true)) ∨
    (∀ kind : Int, 0 ≤ kind → kind ≤ 4 → compOf kind s = (⟨#[]⟩, [], false, true) ∧ impl_Compiled.f kind s = some (⟨#[]⟩, [], false)) := by
  have hl : s.data.toList.length = s.size := Array.length_toList
  rcases comp_sure 0 s h with ⟨more, hok, hmore, hrun⟩ | ⟨hok, hrun⟩
  · refine .inl ⟨more, hmore, ?_⟩
    obtain ⟨h1, h2⟩ := bits_len s.size s.data.toList true [] (by omega)
    change (bitsOf s).1.length ≤ _ at h1
    change ∀ p ∈ (bitsOf s).1, _ at h2
    obtain ⟨m2, h3, h4, h5⟩ := bits_all s.size s.data.toList true [] (by omega) h hok
    change (bitsOf s).1 = _ at h3
    rw [List.nil_append, hmore] at h3
    subst h3
    rw [hmore, hl] at h1
    rw [hmore, hl] at h2
    refine ⟨by simpa using h1, fun p hp => ?_, h4, h5, fun kind k0 k4 => ⟨?_, ?_⟩⟩
    · rcases h2 p hp with h | h
      · simp at h
      · exact h
    · unfold compOf
      rw [if_pos hok, hmore, foldB_is, h]
      simp
    · unfold impl_Compiled.f
      rw [if_pos ⟨hs, k0, k4⟩, hrun, foldB_is]
      simp [textsL, bytesL]
  · refine .inr fun kind k0 k4 => ⟨?_, ?_⟩
    · unfold compOf
      rw [if_neg (by rw [hok]; decide), h]
    · unfold impl_Compiled.f
      rw [if_pos ⟨hs, k0, k4⟩, hrun]
theorem names_short (more : List (Bool × List UInt8)) (n : Nat) (h : more.length ≤ n) : (bytesL (nB more)).length ≤ n := by
  have := names_len more
  simp [bytesL]
  omega
theorem comp_unsure (kind : Int) (s : ByteArray) (h : ¬ (bitsOf s).2.2 = true) : (compOf kind s).2.2.2 = false := by
  unfold compOf
  split <;> simpa using h
end Go.Proofs.YtnmhoghmhglimaaDoor.SC
/-
  PLAIN: the reference's ArgsRight, ValuesOf and NamedOf; and that NamedOf of the program answers the same, where the reference is sure (texts of at most 2^20 bytes).
-/
namespace Go.Proofs.YtnmhoghmhglimaaDoor.SN
open Go.RowKit Go.Proofs.YtnmhoghmhglimaaDoor.QN Go.Proofs.YtnmhoghmhglimaaDoor.H Go.Proofs.YtnmhoghmhglimaaDoor.SC Go.Proofs.YtnmhoghmhglimaaDoorW.PrintWords Go.Proofs.YtnmhoghmhglimaaDoorW.PrintLast Go.Proofs.YtnmhoghmhglimaaDoorW.PrintMore
set_option linter.unusedVariables false
set_option linter.unusedSimpArgs false

theorem list_eq {a b : ByteArray} : a.toList = b.toList ↔ a = b := by
  rw [Lib.toList_data, Lib.toList_data, Array.toList_inj]
  exact ⟨fun h => ByteArray.ext h, fun h => by rw [h]⟩
theorem list_nil {a : ByteArray} (h : a.toList = ([] : List UInt8)) : a = ⟨#[]⟩ := by
  rw [Lib.toList_data] at h
  exact ByteArray.ext (Array.toList_inj.1 h)
theorem w64s (i : Nat) (h : i < 9223372036854775807) : wrap64 ((i : Int) + 1) = ((i + 1 : Nat) : Int) := by
  rw [IntWalk.wrap64_in _ (by omega)]
  omega
theorem flat_is (x : S52) : ∃ b, spec_flat.f x.f0 x.f1 x.f2 x.f3 = some b ∧ (b = true → atomR x) := by
  unfold spec_flat.f
  by_cases h0 : x.f0 ≥ 0
  · by_cases h4 : x.f0 ≤ 4
    · by_cases hl : (x.f3.length : Int) = 0
      · have hn : x.f3 = [] := List.eq_nil_of_length_eq_zero (by omega)
        rw [if_pos h0, if_pos h4, if_pos hl]
        by_cases h1 : x.f1 = 0
        · rw [if_pos h1]
          by_cases h2 : x.f2.toList = ([] : List UInt8)
          · rw [if_pos h2]
            exact ⟨_, rfl, fun _ => ⟨h0, h4, hn, .inl h1, .inl (list_nil h2)⟩⟩
          · rw [if_neg h2]
            by_cases h3 : x.f0 = 2
            · rw [if_pos h3]
              exact ⟨_, rfl, fun _ => ⟨h0, h4, hn, .inl h1, .inr h3⟩⟩
            · rw [if_neg h3]
              exact ⟨_, rfl, fun h => by cases h⟩
        · rw [if_neg h1]
          by_cases h5 : x.f0 = 1
          · rw [if_pos h5]
            by_cases h2 : x.f2.toList = ([] : List UInt8)
            · rw [if_pos h2]
              exact ⟨_, rfl, fun _ => ⟨h0, h4, hn, .inr h5, .inl (list_nil h2)⟩⟩
            · rw [if_neg h2, if_neg (by omega)]
              exact ⟨_, rfl, fun h => by cases h⟩
          · rw [if_neg h5]
            exact ⟨_, rfl, fun h => by cases h⟩
      · rw [if_pos h0, if_pos h4, if_neg hl]
        exact ⟨_, rfl, fun h => by cases h⟩
    · rw [if_pos h0, if_neg h4]
      exact ⟨_, rfl, fun h => by cases h⟩
  · rw [if_neg h0]
    exact ⟨_, rfl, fun h => by cases h⟩
theorem rdV (l : List S52) (j : Nat) (h : j < l.length) : rd_T52 l (j : Int) = l[j] := by
  unfold rd_T52
  rw [Int.toNat_natCast, List.getD_eq_getElem?_getD, List.getElem?_eq_getElem h]
  rfl
theorem rdA (l : List S54) (j : Nat) (h : j < l.length) : rd_T54 l (j : Int) = l[j] := by
  unfold rd_T54
  rw [Int.toNat_natCast, List.getD_eq_getElem?_getD, List.getElem?_eq_getElem h]
  rfl
theorem argument_l (q0 q1 : Int) (q2 : ByteArray) (l : List S52) (hl : l.length ≤ 20) : ∀ (d i : Nat), l.length - i = d → i ≤ l.length → ∃ b, Ev (fun k => spec_ArgumentRight.l0 k i q0 q1 q2 l) b ∧ (b = true → ∀ j, i ≤ j → (h : j < l.length) → atomR (l[j]'h)) := by
  intro d
  induction d with
  | zero =>
    intro i hd hi
    have c1 : ¬ (i : Int) < (l.length : Int) := by omega
    exact ⟨true, Ev.step (f := fun _ => some true) (fun k => by simp only [spec_ArgumentRight.l0]; rw [if_neg c1]) (Ev.now _), fun _ j h1 h2 => by omega⟩
  | succ d ih =>
    intro i hd hi
    have hlt : i < l.length := by omega
    have c1 : (i : Int) < (l.length : Int) := by omega
    have c0 : (0 : Int) ≤ (i : Int) := by omega
    have e1 := w64s i (by omega)
    have hr := rdV l i hlt
    by_cases h5 : l[i].f0 = 5
    · refine ⟨false, Ev.step (f := fun _ => some false) (fun k => ?_) (Ev.now _), fun h => by cases h⟩
      simp only [spec_ArgumentRight.l0]
      rw [if_pos c1, if_pos c0, hr, if_pos h5]
    · obtain ⟨b, hb, hok⟩ := flat_is l[i]
      cases b with
      | false =>
        refine ⟨false, Ev.step (f := fun _ => some false) (fun k => ?_) (Ev.now _), fun h => by cases h⟩
        simp only [spec_ArgumentRight.l0]
        rw [if_pos c1, if_pos c0, hr, if_neg h5, hb, Option.bind_some, if_neg (by decide)]
      | true =>
        obtain ⟨b2, hE, hb2⟩ := ih (i + 1) (by omega) (by omega)
        refine ⟨b2, Ev.step (fun k => ?_) hE, fun h j h1 h2 => ?_⟩
        · simp only [spec_ArgumentRight.l0]
          rw [if_pos c1, if_pos c0, hr, if_neg h5, hb, Option.bind_some, if_pos rfl, e1]
        · rcases Nat.eq_or_lt_of_le h1 with h3 | h3
          · subst h3
            exact hok rfl
          · exact hb2 h j h3 h2
theorem argument_is (x : S52) : ∃ b, Ev (fun k => spec_ArgumentRight.f k x.f0 x.f1 x.f2 x.f3) b ∧ (b = true → rightR x ∧ x.f3.length ≤ 20) := by
  have jT : ∀ q0 q1 q2 q3, Ev (fun k => spec_ArgumentRight.j0 k true q0 q1 q2 q3) false := fun q0 q1 q2 q3 =>
    Ev.step (f := fun _ => some false) (fun k => by simp only [spec_ArgumentRight.j0]; rw [if_pos trivial]) (Ev.now _)
  by_cases h5 : x.f0 = 5
  · by_cases h1 : x.f1 = 0
    · by_cases h2 : x.f2.toList = ([] : List UInt8)
      · by_cases hl : (x.f3.length : Int) > 20
        · refine ⟨false, Ev.congr (fun k => ?_) (jT x.f0 x.f1 x.f2 x.f3), fun h => by cases h⟩
          simp only [spec_ArgumentRight.f]
          rw [if_pos h5, if_pos h1, if_pos h2, decide_eq_true hl]
        · obtain ⟨b, hE, hb⟩ := argument_l x.f0 x.f1 x.f2 x.f3 (by omega) x.f3.length 0 (by omega) (by omega)
          refine ⟨b, Ev.congr (f := fun k => spec_ArgumentRight.j0 k false x.f0 x.f1 x.f2 x.f3) (fun k => ?_) (Ev.step (fun k => ?_) hE), fun h => ⟨.inr ⟨h5, h1, list_nil h2, fun y hy => ?_⟩, by omega⟩⟩
          · simp only [spec_ArgumentRight.f]
            rw [if_pos h5, if_pos h1, if_pos h2, decide_eq_false hl]
          · simp only [spec_ArgumentRight.j0]
            rw [if_neg (by decide)]
            rfl
          · obtain ⟨j, hj, rfl⟩ := List.mem_iff_getElem.1 hy
            exact hb h j (by omega) hj
      · refine ⟨false, Ev.congr (fun k => ?_) (jT x.f0 x.f1 x.f2 x.f3), fun h => by cases h⟩
        simp only [spec_ArgumentRight.f]
        rw [if_pos h5, if_pos h1, if_neg h2]
    · refine ⟨false, Ev.congr (fun k => ?_) (jT x.f0 x.f1 x.f2 x.f3), fun h => by cases h⟩
      simp only [spec_ArgumentRight.f]
      rw [if_pos h5, if_neg h1]
  · obtain ⟨b, hb, hok⟩ := flat_is x
    refine ⟨b, Ev.congr (fun k => ?_) (Ev.now b), fun h => ⟨.inl (hok h), ?_⟩⟩
    · simp only [spec_ArgumentRight.f]
      rw [if_neg h5, hb, Option.bind_some]
    · rw [(hok h).2.2.1]
      simp
/-- What ArgsRight says of the arguments from a place on. -/
def FromOk (l : List S54) (i : Nat) : Prop := l.length ≤ 20 ∧ ∀ j, i ≤ j → (h : j < l.length) → (rightR (l[j]'h).f1 ∧ (l[j]'h).f1.f3.length ≤ 20 ∧ (l[j]'h).f0.size ≤ 1048576) ∧ ∀ m, (hm : m < j) → (l[m]'(by omega)).f0 ≠ (l[j]'h).f0
theorem args_l1 (l : List S54) (hl : l.length ≤ 9223372036854775807) (i : Nat) (hi : i < l.length) (b : Bool) (hE : Ev (fun k => spec_ArgsRight.l0 k l ((i + 1 : Nat) : Int)) b) (hb : b = true → FromOk l (i + 1)) :
    ∀ (d m : Nat), i - m = d → m ≤ i → ∃ b, Ev (fun k => spec_ArgsRight.l1 k l i m) b ∧ (b = true → FromOk l (i + 1) ∧ ∀ n, m ≤ n → (hn : n < i) → (l[n]'(by omega)).f0 ≠ (l[i]'hi).f0) := by
  intro d
  induction d with
  | zero =>
    intro m hd hm
    have c1 : ¬ (m : Int) < (i : Int) := by omega
    refine ⟨b, Ev.step (fun k => ?_) hE, fun h => ⟨hb h, fun n h1 h2 => by omega⟩⟩
    simp only [spec_ArgsRight.l1]
    rw [if_neg c1, w64s i (by omega)]
  | succ d ih =>
    intro m hd hm
    have c1 : (m : Int) < (i : Int) := by omega
    have c2 : (0 : Int) ≤ (m : Int) := by omega
    have c3 : (m : Int) < (l.length : Int) := by omega
    have c4 : (0 : Int) ≤ (i : Int) := by omega
    have c5 : (i : Int) < (l.length : Int) := by omega
    have hr := rdA l m (by omega)
    have hr2 := rdA l i hi
    by_cases he : (l[m]'(by omega)).f0 = l[i].f0
    · refine ⟨false, Ev.step (f := fun _ => some false) (fun k => ?_) (Ev.now _), fun h => by cases h⟩
      simp only [spec_ArgsRight.l1]
      rw [if_pos c1, if_pos c2, if_pos c3, if_pos c4, if_pos c5, hr, hr2, if_pos (list_eq.2 he)]
    · obtain ⟨b2, hE2, hb2⟩ := ih (m + 1) (by omega) (by omega)
      refine ⟨b2, Ev.step (fun k => ?_) hE2, fun h => ⟨(hb2 h).1, fun n h1 h2 => ?_⟩⟩
      · simp only [spec_ArgsRight.l1]
        rw [if_pos c1, if_pos c2, if_pos c3, if_pos c4, if_pos c5, hr, hr2, if_neg (fun h => he (list_eq.1 h)), w64s m (by omega)]
      · rcases Nat.eq_or_lt_of_le h1 with h3 | h3
        · subst h3
          exact he
        · exact (hb2 h).2 n h3 h2
theorem args_l0 (l : List S54) (hl : l.length ≤ 9223372036854775807) : ∀ (d i : Nat), l.length - i = d → i ≤ l.length → ∃ b, Ev (fun k => spec_ArgsRight.l0 k l i) b ∧ (b = true → FromOk l i) := by
  intro d
  induction d with
  | zero =>
    intro i hd hi
    have c1 : ¬ (i : Int) < (l.length : Int) := by omega
    refine ⟨decide ((l.length : Int) ≤ 20), Ev.step (fun k => ?_) (Ev.now _), fun h => ⟨by have := of_decide_eq_true h; omega, fun j h1 h2 => by omega⟩⟩
    simp only [spec_ArgsRight.l0]
    rw [if_neg c1]
  | succ d ih =>
    intro i hd hi
    have hlt : i < l.length := by omega
    have c1 : (i : Int) < (l.length : Int) := by omega
    have c0 : (0 : Int) ≤ (i : Int) := by omega
    have hr := rdA l i hlt
    have jT : Ev (fun k => spec_ArgsRight.j1 k l i true) false := Ev.step (f := fun _ => some false) (fun k => by simp only [spec_ArgsRight.j1]; rw [if_pos trivial]) (Ev.now _)
    obtain ⟨b, hE, hok⟩ := argument_is l[i].f1
    cases b with
    | false =>
      refine ⟨false, Ev.step (f := fun k => (spec_ArgumentRight.f k l[i].f1.f0 l[i].f1.f1 l[i].f1.f2 l[i].f1.f3).bind fun t => if t = true then spec_ArgsRight.j1 k l i (decide ((l[i].f0.size : Int) > 100)) else spec_ArgsRight.j1 k l i true) (fun k => ?_) (Ev.bind hE ?_), fun h => by cases h⟩
      · simp only [spec_ArgsRight.l0]
        rw [if_pos c1, if_pos c0, hr]
      · exact Ev.congr (fun k => by rw [if_neg (by decide)]) jT
    | true =>
      by_cases hz : (l[i].f0.size : Int) > 100
      · refine ⟨false, Ev.step (f := fun k => (spec_ArgumentRight.f k l[i].f1.f0 l[i].f1.f1 l[i].f1.f2 l[i].f1.f3).bind fun t => if t = true then spec_ArgsRight.j1 k l i (decide ((l[i].f0.size : Int) > 100)) else spec_ArgsRight.j1 k l i true) (fun k => ?_) (Ev.bind hE ?_), fun h => by cases h⟩
        · simp only [spec_ArgsRight.l0]
          rw [if_pos c1, if_pos c0, hr]
        · exact Ev.congr (fun k => by rw [if_pos rfl, decide_eq_true hz]) jT
      · obtain ⟨b1, hE1, hb1⟩ := ih (i + 1) (by omega) (by omega)
        obtain ⟨b2, hE2, hb2⟩ := args_l1 l hl i hlt b1 hE1 hb1 i 0 (by omega) (by omega)
        refine ⟨b2, Ev.step (f := fun k => (spec_ArgumentRight.f k l[i].f1.f0 l[i].f1.f1 l[i].f1.f2 l[i].f1.f3).bind fun t => if t = true then spec_ArgsRight.j1 k l i (decide ((l[i].f0.size : Int) > 100)) else spec_ArgsRight.j1 k l i true) (fun k => ?_) (Ev.bind hE ?_), fun h => ⟨(hb2 h).1.1, fun j h1 h2 => ?_⟩⟩
        · simp only [spec_ArgsRight.l0]
          rw [if_pos c1, if_pos c0, hr]
        · refine Ev.congr (f := fun k => spec_ArgsRight.j1 k l i false) (fun k => by rw [if_pos rfl, decide_eq_false hz]) (Ev.step (fun k => ?_) hE2)
          simp only [spec_ArgsRight.j1]
          rw [if_neg (by decide)]
          rfl
        · rcases Nat.eq_or_lt_of_le h1 with h3 | h3
          · subst h3
            exact ⟨⟨(hok rfl).1, (hok rfl).2, by omega⟩, fun m hm => (hb2 h).2 m (by omega) hm⟩
          · exact (hb2 h).1.2 j h3 h2
theorem args_lens (l : List S54) (hl : l.length ≤ 9223372036854775807) : ∃ b, Ev (fun k => spec_ArgsRight.f k l) b ∧ (b = true → (ArgsOk l ∧ l.length ≤ 20) ∧ ∀ x ∈ l, x.f1.f3.length ≤ 20) := by
  obtain ⟨b, hE, hb⟩ := args_l0 l hl l.length 0 (by omega) (by omega)
  refine ⟨b, hE, fun h => ?_⟩
  obtain ⟨h1, h2⟩ := hb h
  refine ⟨⟨⟨by omega, fun x hx => ?_, ?_⟩, h1⟩, fun x hx => ?_⟩
  · obtain ⟨j, hj, rfl⟩ := List.mem_iff_getElem.1 hx
    have := (h2 j (by omega) hj).1
    exact ⟨this.1, by have := this.2.1; omega, this.2.2⟩
  · rw [List.pairwise_iff_getElem]
    intro i j hi hj hij
    exact (h2 j (by omega) hj).2 i hij
  · obtain ⟨j, hj, rfl⟩ := List.mem_iff_getElem.1 hx
    exact (h2 j (by omega) hj).1.2.1
theorem args_is (l : List S54) (hl : l.length ≤ 9223372036854775807) : ∃ b, Ev (fun k => spec_ArgsRight.f k l) b ∧ (b = true → ArgsOk l ∧ l.length ≤ 20) := by
  obtain ⟨b, hE, hb⟩ := args_lens l hl
  exact ⟨b, hE, fun h => (hb h).1⟩
theorem rdN (l : List ByteArray) (j : Nat) (h : j < l.length) : rdOf ByteArray.empty l (j : Int) = l[j] := by
  unfold rdOf
  rw [Int.toNat_natCast, List.getD_eq_getElem?_getD, List.getElem?_eq_getElem h]
  rfl
theorem eta_val (x : S52) : (⟨x.f0, x.f1, x.f2, x.f3⟩ : S52) = x := by
  cases x
  rfl
def valsP (acc : List S52) : Option (List S52) → List S52 × Bool
  | some vs => (acc ++ vs, true)
  | none => ([], false)
/-- What NamedOf of the reference answers. -/
def namOf (kind : Int) (s : ByteArray) (l : List S54) : ByteArray × List S52 × Bool × Bool :=
  if (bitsOf s).2.2 = true then (match mapF kind s l with
    | some r => (r.1, r.2, true, true)
    | none => (⟨#[]⟩, [], false, true)) else (⟨#[]⟩, [], false, false)
theorem right_deep {x : S52} (h : rightR x) : deep 2 x := by
  rcases h with h | h
  · intro y hy
    rw [h.2.2.1] at hy
    cases hy
  · intro y hy z hz
    rw [(h.2.2.2 y hy).2.2.1] at hz
    cases hz
/-- Where it is sure: the program answers the same. -/
theorem named_law (kind : Int) (k0 : 0 ≤ kind) (k4 : kind ≤ 4) (s : ByteArray) (hs : s.size ≤ 1048576) (l : List S54) (hl : ArgsOk l) (hsure : (bitsOf s).2.2 = true) :
    ∃ out vs ok, namOf kind s l = (out, vs, ok, true) ∧ impl_NamedOf.f kind s l = some (out, vs, ok) ∧ (∀ x ∈ vs, deep 2 x) ∧ vs.length ≤ 1048576 := by
  unfold namOf impl_NamedOf.f
  rw [if_pos hsure, if_pos ⟨hs, k0, k4, (argsB_iff l).2 hl⟩]
  cases hm : mapF kind s l with
  | none => exact ⟨_, _, _, rfl, rfl, (fun x hx => by cases hx), (by simp)⟩
  | some r =>
    have hg := mapF_good hm hs hl
    exact ⟨_, _, _, rfl, rfl, fun x hx => right_deep (hg.2 x hx).1, hg.1⟩
end Go.Proofs.YtnmhoghmhglimaaDoor.SN

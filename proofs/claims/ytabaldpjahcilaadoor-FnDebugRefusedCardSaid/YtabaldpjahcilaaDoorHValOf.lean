/-
  CONTRACTS: valueOf and valuesOf give back the values of which Go's interfaces were made (right values: none, or lists of such).
-/
import Derived.Test.YtabaldpjahcilaaDoorHGoOf
import Derived.Laws.Rows
namespace Go.Proofs.YtabaldpjahcilaaDoor.H
open Go.RowKit Go.Proofs.YtabaldpjahcilaaDoorW.PrintWords Go.Proofs.YtabaldpjahcilaaDoorW.PrintLast Go.Proofs.YtabaldpjahcilaaDoorW.PrintMore Go.Proofs.YtabaldpjahcilaaDoor.QD
set_option linter.unusedVariables false
set_option linter.unusedSimpArgs false

theorem assert_yes {P : Program} {T : TypeId} {d : TypeDesc} (hu : P.underlying T = some d) (hd : ∀ ms, d ≠ .interface ms) (xT : TypeId) (v : Value) (W : World) : (Instr.typeAssert (.iface T v) xT T true).run P W = .ok (.tuple #[v, .bool true]) W := by
  unfold Instr.typeAssert
  simp only [Sem.run_bind, run_underlying hu, Result.andThen]
  cases d <;> simp_all [Sem.run_pure]
theorem assert_no {P : Program} {T t : TypeId} {d : TypeDesc} {i : TypeInfo} {z : Value} (hu : P.underlying T = some d) (hd : ∀ ms, d ≠ .interface ms) (hi : P.info? T = some i) (hz : i.zero = some z) (hne : t ≠ T) (xT : TypeId) (v : Value) (W : World) : (Instr.typeAssert (.iface t v) xT T true).run P W = .ok (.tuple #[z, .bool false]) W := by
  unfold Instr.typeAssert
  simp only [Sem.run_bind, run_underlying hu, Result.andThen]
  cases d <;> simp_all [Sem.run_pure, zeroValue, typeInfo, Result.andThen]
theorem ta_int_yes (v : Value) (W : World) : (Instr.typeAssert (.iface 2 v) 20 2 true).run Tryd.prog W = .ok (.tuple #[v, .bool true]) W := assert_yes Tryd.underlying2 (fun _ h => by cases h) _ v W
theorem ta_int_no (t : TypeId) (v : Value) (h : t ≠ 2) (W : World) : (Instr.typeAssert (.iface t v) 20 2 true).run Tryd.prog W = .ok (.tuple #[.int .i64 0, .bool false]) W := by
  obtain ⟨i, hi, hz⟩ := Option.map_eq_some_iff.1 (show (Tryd.prog.info? 2).map (·.zero) = some (some (.int .i64 0)) by kernel_rfl)
  exact assert_no Tryd.underlying2 (fun _ h => by cases h) hi hz h _ v W
theorem ta_str_yes (v : Value) (W : World) : (Instr.typeAssert (.iface 9 v) 20 9 true).run Tryd.prog W = .ok (.tuple #[v, .bool true]) W := assert_yes Tryd.underlying9 (fun _ h => by cases h) _ v W
theorem ta_str_no (t : TypeId) (v : Value) (h : t ≠ 9) (W : World) : (Instr.typeAssert (.iface t v) 20 9 true).run Tryd.prog W = .ok (.tuple #[.string ⟨#[]⟩, .bool false]) W := by
  obtain ⟨i, hi, hz⟩ := Option.map_eq_some_iff.1 (show (Tryd.prog.info? 9).map (·.zero) = some (some (.string ⟨#[]⟩)) by kernel_rfl)
  exact assert_no Tryd.underlying9 (fun _ h => by cases h) hi hz h _ v W
theorem ta_bool_yes (v : Value) (W : World) : (Instr.typeAssert (.iface 4 v) 20 4 true).run Tryd.prog W = .ok (.tuple #[v, .bool true]) W := assert_yes Tryd.underlying4 (fun _ h => by cases h) _ v W
theorem ta_bool_no (t : TypeId) (v : Value) (h : t ≠ 4) (W : World) : (Instr.typeAssert (.iface t v) 20 4 true).run Tryd.prog W = .ok (.tuple #[.bool false, .bool false]) W := by
  obtain ⟨i, hi, hz⟩ := Option.map_eq_some_iff.1 (show (Tryd.prog.info? 4).map (·.zero) = some (some (.bool false)) by kernel_rfl)
  exact assert_no Tryd.underlying4 (fun _ h => by cases h) hi hz h _ v W
theorem ta_list_yes (v : Value) (W : World) : (Instr.typeAssert (.iface 36 v) 20 36 true).run Tryd.prog W = .ok (.tuple #[v, .bool true]) W := assert_yes Tryd.underlying36 (fun _ h => by cases h) _ v W
theorem ta_list_no (t : TypeId) (v : Value) (h : t ≠ 36) (W : World) : (Instr.typeAssert (.iface t v) 20 36 true).run Tryd.prog W = .ok (.tuple #[.slice none 0 0, .bool false]) W := by
  obtain ⟨i, hi, hz⟩ := Option.map_eq_some_iff.1 (show (Tryd.prog.info? 36).map (·.zero) = some (some (.slice none 0 0)) by kernel_rfl)
  exact assert_no Tryd.underlying36 (fun _ h => by cases h) hi hz h _ v W
/-- What valueOf hands back. -/
def BackPost (x : S27) (w : World) (e : Ending) (w' : World) : Prop := ∃ v : Value, e = .returned (.agg #[.int .i64 x.f0, .int .i64 x.f1, .string x.f2, v]) ∧ k27.R 27 w' w.heap.size (fun _ => True) v x.f3 ∧ Below w.heap.size w w'
set_option maxHeartbeats 3200000 in
set_option maxRecDepth 100000 in
theorem valueOf_atom (x : S27) (hx : atomR x) (w : World) : Calls Tryd.prog 36 #[encG x] w (BackPost x w) := by
  obtain ⟨h0, h4, hl, h1, h2⟩ := hx
  obtain ⟨k, n, t, l⟩ := x
  simp only [] at h0 h4 hl h1 h2
  subst hl
  have : k = 0 ∨ k = 1 ∨ k = 2 ∨ k = 3 ∨ k = 4 := by omega
  rcases this with rfl | rfl | rfl | rfl | rfl
  · obtain rfl : n = 0 := by omega
    obtain rfl : t = ⟨#[]⟩ := by simpa using h2
    show Calls _ _ #[.nilIface] _ _
    go_enter Tryd.func36, Tryd.ntmps36
    go_wp2_with fail
    (try simp only [Exit.inBlock, Exit.then])
    refine bodyPost_ret (results_cell_row (P := Tryd.prog) rfl _ _ w.heap.size 27 _ (0, 0) _ rfl (heap_alloc_new w _) Tryd.underlying27 rfl (by kernel_rfl)) rfl ?_
    exact ⟨.slice none 0 0, rfl, Kd.R_nil _ _ _ _ _, one_below _ _⟩
  · obtain rfl : t = ⟨#[]⟩ := by simpa using h2
    show Calls _ _ #[.iface 2 (.int .i64 n)] _ _
    have t1 := ta_int_yes (.int .i64 n)
    go_enter Tryd.func36, Tryd.ntmps36
    go_wp2_with fail
    (try simp only [Exit.inBlock, Exit.then])
    refine bodyPost_ret (results_cell_row (P := Tryd.prog) rfl _ _ w.heap.size 27 _ (0, 0) _ rfl (heap_alloc_new w _) Tryd.underlying27 rfl (by kernel_rfl)) rfl ?_
    exact ⟨.slice none 0 0, rfl, Kd.R_nil _ _ _ _ _, one_below _ _⟩
  · obtain rfl : n = 0 := by omega
    show Calls _ _ #[.iface 9 (.string t)] _ _
    have t1 := ta_int_no 9 (.string t) (by decide)
    have t2 := ta_str_yes (.string t)
    go_enter Tryd.func36, Tryd.ntmps36
    go_wp2_with fail
    (try simp only [Exit.inBlock, Exit.then])
    refine bodyPost_ret (results_cell_row (P := Tryd.prog) rfl _ _ w.heap.size 27 _ (0, 0) _ rfl (heap_alloc_new w _) Tryd.underlying27 rfl (by kernel_rfl)) rfl ?_
    exact ⟨.slice none 0 0, rfl, Kd.R_nil _ _ _ _ _, one_below _ _⟩
  · obtain rfl : n = 0 := by omega
    obtain rfl : t = ⟨#[]⟩ := by simpa using h2
    show Calls _ _ #[.iface 4 (.bool true)] _ _
    have t1 := ta_int_no 4 (.bool true) (by decide)
    have t2 := ta_str_no 4 (.bool true) (by decide)
    have t3 := ta_bool_yes (.bool true)
    go_enter Tryd.func36, Tryd.ntmps36
    go_wp2_with fail
    (try simp only [Exit.inBlock, Exit.then])
    refine bodyPost_ret (results_cell_row (P := Tryd.prog) rfl _ _ w.heap.size 27 _ (0, 0) _ rfl (heap_alloc_new w _) Tryd.underlying27 rfl (by kernel_rfl)) rfl ?_
    exact ⟨.slice none 0 0, rfl, Kd.R_nil _ _ _ _ _, one_below _ _⟩
  · obtain rfl : n = 0 := by omega
    obtain rfl : t = ⟨#[]⟩ := by simpa using h2
    show Calls _ _ #[.iface 4 (.bool false)] _ _
    have t1 := ta_int_no 4 (.bool false) (by decide)
    have t2 := ta_str_no 4 (.bool false) (by decide)
    have t3 := ta_bool_yes (.bool false)
    go_enter Tryd.func36, Tryd.ntmps36
    go_wp2_with fail
    (try simp only [Exit.inBlock, Exit.then])
    refine bodyPost_ret (results_cell_row (P := Tryd.prog) rfl _ _ w.heap.size 27 _ (0, 0) _ rfl (heap_alloc_new w _) Tryd.underlying27 rfl (by kernel_rfl)) rfl ?_
    exact ⟨.slice none 0 0, rfl, Kd.R_nil _ _ _ _ _, one_below _ _⟩

theorem info_val : (Tryd.prog.info? 27).map (fun i => (i.zero, i.size, i.bytes)) = some (some (.agg #[.int .i64 0, .int .i64 0, .string ⟨#[]⟩, .slice none 0 0]), 4, 56) := by kernel_rfl
/-- What valueOf owes of an element. -/
def Backs (d : Kd S27) (x : S27) : Prop := ∀ (u : Value) (w : World), d.K w x [u] → Calls Tryd.prog 36 #[u] w (BackPost x w)
theorem one_cell {d : Kd S27} (hsz : d.sz = 1) {l : List S27} {w : World} {A : Option Addr} {n : Nat} (h : d.C w A n l) (i : Int) (h0 : 0 ≤ i) (h1 : i < n) : ∃ ad u, A = some ad ∧ d.K w (rd_T27 l i) [u] ∧ w.cell? (ad.add i.toNat) = some u := by
  obtain ⟨ad, c, e, hl, hK, hc0⟩ := Kd.C_get h z27 i h0 h1
  have hlen := d.K_len hK
  rw [hsz] at hlen hc0
  obtain ⟨u, rfl⟩ : ∃ u, c = [u] := List.length_eq_one_iff.1 hlen
  refine ⟨ad, u, e, hK, ?_⟩
  have := hc0 0 u rfl
  simpa using this
set_option maxHeartbeats 3200000 in
set_option maxRecDepth 100000 in
theorem valuesOf_of (d : Kd S27) (hsz : d.sz = 1) (l : List S27) (h : ∀ x ∈ l, Backs d x) (hl : l.length ≤ 1048576) (A : Option Addr) (c : Nat) (w : World) (hC : d.C w A l.length l) :
    Calls Tryd.prog 30 #[.slice A l.length c] w fun e w' => ∃ v : Value, e = .returned v ∧ k27.R 27 w' w.heap.size (fun _ => True) v l ∧ Below w.heap.size w w' := by
  have H := Lib.hid h
  have HC := Lib.hid hC
  have HZ := Lib.hid hsz
  clear h hC hsz
  go_enter Tryd.func30, Tryd.ntmps30
  go_wp2_with fail
  go_loopg [3, 8] l.length (fun g v3 v8 w' => ∃ (i : Int), v8 = .int .i64 i ∧ Hid (0 ≤ i ∧ i + g = l.length) ∧ Hid (k27.R 27 w' w.heap.size (fun _ => True) v3 (l.take i.toNat)) ∧ Hid (Below w.heap.size w w'))
  case atStart => exact ⟨0, rfl, Lib.hid ⟨by omega, by omega⟩, Lib.hid (Kd.R_nil _ _ _ _ _), Lib.hid (Below.refl _ _)⟩
  case round =>
    obtain ⟨i, rfl, HI, HO, HB⟩ := hrel
    have hi := HI.out
    cases gk with
    | zero =>
      have hge : ¬ i < (l.length : Int) := by omega
      have hall : l.take i.toNat = l := List.take_of_length_le (by omega)
      have HO2 := HO.out
      rw [hall] at HO2
      have HF := Lib.hid HO2
      clear hi hall HO2
      go_wp2_with fail
      go_ret
      exact ⟨_, rfl, HF.out, HB.out⟩
    | succ g =>
      have hlt : i < (l.length : Int) := by omega
      have h0 : 0 ≤ i := hi.1
      obtain ⟨ad, u, rfl, hK, hcell⟩ := one_cell HZ.out (Kd.C_below HC.out HB.out) i h0 hlt
      have HX := Lib.hid (atom_at l (Backs d) H.out i h0 hlt)
      have HT := Lib.hid (take_next l i h0 hlt)
      have HK := Lib.hid hK
      clear hi hK
      generalize rd_T27 l i = x at HX HK HT
      go_wp2_with fail
      refine (HX.out u _ HK.out).mono ?_
      rintro e w2 ⟨v, rfl, hR, hb⟩
      obtain ⟨A2, c2, e2⟩ := Kd.R_slice hR
      subst e2
      have HB2 : Below w.heap.size w w2 := HB.out.trans (hb.mono HB.out.size)
      have HO2 := Lib.hid (Kd.R_below HO.out hb)
      have hM := k27_mkM w2 wr.heap.size (fun _ => True) x hR
      have HM2 := Lib.hid (k27.M_lower (base' := w.heap.size) HB.out.size (k27.M_bound hM))
      have HLT := Lib.hid (Kd.R_lt HO.out)
      have hbase := HB2.size
      clear hR hM hb HK hcell
      go_wp2_with (first | ((with_reducible refine gate_builtin (b := .append) (xs := #[.tmp 12, .tmp 15]) rfl ?_); at_builtin; refine Kd.R_append k27 (w0 := w) w.heap.size rfl (.tmp 12) (.tmp 15) 22 27 (.agg #[.int .i64 0, .int .i64 0, .string ⟨#[]⟩, .slice none 0 0]) 56 rfl Tryd.underlying22 info_val rfl (by decide) (by omega) u3 (l.take i.toNat) x _ (fun _ => True) _ rfl rfl HM2.out (fun k hk => ⟨trivial, fun he => absurd (HLT.out k he.symm) (Nat.not_lt.mpr hk.2.1)⟩) (fun _ _ => trivial) HO2.out HB2 hbase (by rw [List.length_take]; omega) ?_))
      intro v1 w1 hO1 hB1 _ _
      have HO3 := Lib.hid (by rw [← HT.out] at hO1; exact hO1)
      have HB3 := Lib.hid hB1
      clear hO1 hB1
      go_wp2_with fail
      go_roundg g
      case measure => omega
      case rel => exact ⟨i + 1, rfl, Lib.hid (by have := HI.out; omega), HO3, HB3⟩
theorem atom_backs (x : S27) (hx : atomR x) : Backs kGA x := by
  intro u w h
  have h' : [u] = [encG x] := h
  injection h' with h'
  rw [h']
  exact valueOf_atom x hx w
set_option maxHeartbeats 3200000 in
set_option maxRecDepth 100000 in
theorem valueOf_list (x : S27) (hx : x.f0 = 5) (h1 : x.f1 = 0) (h2 : x.f2 = ⟨#[]⟩) (ha : ∀ y ∈ x.f3, atomR y) (hl : x.f3.length ≤ 1048576) : Backs kG x := by
  intro u w hK
  have hK' : (if x.f0 = 5 then ∃ A c, [u] = [.iface 36 (.slice A x.f3.length c)] ∧ x.f3.length ≤ c ∧ kGA.C w A x.f3.length x.f3 else [u] = [encG x]) := hK
  rw [if_pos hx] at hK'
  obtain ⟨A, c, hu, _, hC⟩ := hK'
  injection hu with hu
  subst hu
  have HV := Lib.hid (valuesOf_of kGA rfl x.f3 (fun y hy => atom_backs y (ha y hy)) hl A c (w.alloc (.cells #[.int .i64 0, .int .i64 0, .string ⟨#[]⟩, .slice none 0 0] 27)) (Kd.C_below hC (one_below _ _)))
  unfold BackPost
  rw [hx, h1, h2]
  have t1 := ta_int_no 36 (.slice A x.f3.length c) (by decide)
  have t2 := ta_str_no 36 (.slice A x.f3.length c) (by decide)
  have t3 := ta_bool_no 36 (.slice A x.f3.length c) (by decide)
  have t4 := ta_list_yes (.slice A x.f3.length c)
  clear hK hC hx h1 h2 ha hl
  go_enter Tryd.func36, Tryd.ntmps36
  go_wp2_with fail
  refine HV.out.mono ?_
  rintro e w1 ⟨v, rfl, hR, hb⟩
  have HR := Lib.hid hR
  have HB := Lib.hid hb
  obtain ⟨A2, n2, e2⟩ := Kd.R_slice hR
  subst e2
  have hrow : w1.heap[w.heap.size]? = some (.cells #[.int .i64 0, .int .i64 0, .string ⟨#[]⟩, .slice none 0 0] 27) := by
    rw [hb.block w.heap.size (by show w.heap.size < (w.heap.push _).size; simp)]
    exact heap_alloc_new w _
  have c0 := cell_of_row w1 w.heap.size 0 _ _ _ hrow
  have c1 := cell_of_row w1 w.heap.size 1 _ _ _ hrow
  have c2 := cell_of_row w1 w.heap.size 2 _ _ _ hrow
  have c3 := cell_of_row w1 w.heap.size 3 _ _ _ hrow
  have f0 := frozen_of_row w1 w.heap.size 0 _ _ hrow
  have f1 := frozen_of_row w1 w.heap.size 1 _ _ hrow
  have f2 := frozen_of_row w1 w.heap.size 2 _ _ hrow
  have f3 := frozen_of_row w1 w.heap.size 3 _ _ hrow
  have HROW := Lib.hid hrow
  simp only [List.getElem?_toArray, List.getElem?_cons_zero, List.getElem?_cons_succ] at c0 c1 c2 c3
  clear hR hb HV t1 t2 t3 t4 hrow
  go_wp2_with fail
  (try simp only [Exit.inBlock, Exit.then])
  have r0 := heap_setCell_same w1 w.heap.size 0 _ _ (.int .i64 5) HROW.out
  have r1 := heap_setCell_same _ w.heap.size 1 _ _ (.int .i64 0) r0
  have r2 := heap_setCell_same _ w.heap.size 2 _ _ (.string ⟨#[]⟩) r1
  have r3 := heap_setCell_same _ w.heap.size 3 _ _ (.slice A2 x.f3.length n2) r2
  refine bodyPost_ret (results_cell_row (P := Tryd.prog) rfl _ _ w.heap.size 27 _ (0, 0) _ rfl r3 Tryd.underlying27 rfl (by kernel_rfl)) rfl ?_
  refine ⟨.slice A2 x.f3.length n2, rfl, ?_, below_set (below_set (below_set (below_set ((one_below _ _).trans (HB.out.mono (by simp))) (Nat.le_refl _)) (Nat.le_refl _)) (Nat.le_refl _)) (Nat.le_refl _)⟩
  have hw : w.heap.size < (w.alloc (.cells #[.int .i64 0, .int .i64 0, .string ⟨#[]⟩, .slice none 0 0] 27)).heap.size := by
    show w.heap.size < (w.heap.push _).size
    simp
  refine Kd.R_lower (Kd.R_mono (Kd.R_move (Kd.R_bound HR.out) (fun k hk => ?_)) (fun _ hk => hk.1)) (Nat.le_of_lt hw)
  have hk2 : k ≠ w.heap.size := by have := hk.2.1; omega
  rw [heap_setCell_other _ _ k _ hk2, heap_setCell_other _ _ k _ hk2, heap_setCell_other _ _ k _ hk2, heap_setCell_other _ _ k _ hk2]
/-- valueOf of what goOf made of a right value. -/
theorem right_backs (x : S27) (hx : rightR x) (hl : x.f3.length ≤ 1048576) : Backs kG x := by
  rcases hx with h | ⟨h5, h1, h2, ha⟩
  · intro u w hK
    have hK' : (if x.f0 = 5 then ∃ A c, [u] = [.iface 36 (.slice A x.f3.length c)] ∧ x.f3.length ≤ c ∧ kGA.C w A x.f3.length x.f3 else [u] = [encG x]) := hK
    rw [if_neg (by have := h.2.1; omega)] at hK'
    injection hK' with hu
    rw [hu]
    exact valueOf_atom x h w
  · exact valueOf_list x h5 h1 h2 ha hl
theorem valuesOf_right (l : List S27) (h : ∀ x ∈ l, rightR x ∧ x.f3.length ≤ 1048576) (hl : l.length ≤ 1048576) (A : Option Addr) (c : Nat) (w : World) (hC : kG.C w A l.length l) :
    Calls Tryd.prog 30 #[.slice A l.length c] w fun e w' => ∃ v : Value, e = .returned v ∧ k27.R 27 w' w.heap.size (fun _ => True) v l ∧ Below w.heap.size w w' :=
  valuesOf_of kG rfl l (fun x hx => right_backs x (h x hx).1 (h x hx).2) hl A c w hC
end Go.Proofs.YtabaldpjahcilaaDoor.H

/-
  MERGED BY A PROGRAM OF THIS SESSION (wip/pack.py): HKinds, HGoOf, HValOf, HErr, HMap, HKeys, HPlaces, HRight, HTable.
-/
import Derived.Test.YtabaldpjahcilaaDoorVD
import Derived.Handy
import Derived.Lib.Hide
import Derived.Outline
import Derived.Laws.Rows
import Derived.Laws.AppendOwnNone
import Derived.Lib.OthersKept
import Derived.Maps.OwnSet
import Derived.Test.YtabaldpjahcilaaDoorVB
import Derived.Maps.RangeWalk
import Derived.Sort.KeysCollected
import Derived.Test.YtabaldpjahcilaaDoorVA
import Derived.WalkKit
import Derived.Lib.SliceRun
/-
  KINDS of interface values: an argument as Go has it ('interface{}' that holds nothing, an int64, a string, a bool), or a list of such; what is read and what is made.
-/
namespace Go.Proofs.YtabaldpjahcilaaDoor.H
open Go.RowKit Go.Proofs.YtabaldpjahcilaaDoorW.PrintWords Go.Proofs.YtabaldpjahcilaaDoorW.PrintLast Go.Proofs.YtabaldpjahcilaaDoorW.PrintMore Go.Proofs.YtabaldpjahcilaaDoor.QD
set_option linter.unusedVariables false
set_option linter.unusedSimpArgs false

/-- A value as Go's interface holds it, no list. -/
def encG (x : S27) : Value := if x.f0 = 1 then .iface 2 (.int .i64 x.f1) else if x.f0 = 2 then .iface 9 (.string x.f2) else if x.f0 = 3 then .iface 4 (.bool true) else if x.f0 = 4 then .iface 4 (.bool false) else .nilIface
theorem encG_one (x : S27) : (encG x).oneCell' = true := by
  unfold encG
  split
  · rfl
  · split
    · rfl
    · split
      · rfl
      · split <;> rfl
def kGA : Kd S27 := Kd.scalar encG encG_one
/-- .. or a list of such. -/
def kG : Kd S27 where
  sz := 1
  E := [20]
  K := fun w x cs => if x.f0 = 5 then ∃ A c, cs = [.iface 36 (.slice A x.f3.length c)] ∧ x.f3.length ≤ c ∧ kGA.C w A x.f3.length x.f3 else cs = [encG x]
  M := fun w base ok x cs => if x.f0 = 5 then ∃ v, cs = [.iface 36 v] ∧ kGA.R 20 w base ok v x.f3 else cs = [encG x]
  K_len := by
    intro w x cs h
    split at h
    · obtain ⟨A, c, rfl, _⟩ := h
      rfl
    · rw [h]
      rfl
  K_one := by
    intro w x cs h u hu
    split at h
    · obtain ⟨A, c, rfl, _⟩ := h
      rw [List.mem_singleton.1 hu]
      rfl
    · rw [h] at hu
      rw [List.mem_singleton.1 hu]
      exact encG_one x
  K_below := by
    intro w w1 x cs hb h
    split at h
    · rename_i h5
      rw [if_pos h5]
      obtain ⟨A, c, rfl, hl, hr⟩ := h
      exact ⟨A, c, rfl, hl, Kd.C_below hr hb⟩
    · rename_i h5
      rw [if_neg h5]
      exact h
  K_of_M := by
    intro w base ok x cs h
    split at h
    · rename_i h5
      rw [if_pos h5]
      obtain ⟨v, rfl, h⟩ := h
      obtain ⟨A, c, rfl, hl, hr⟩ := Kd.R_reads h
      exact ⟨A, c, rfl, hl, hr⟩
    · rename_i h5
      rw [if_neg h5]
      exact h
  M_mono := by
    intro w base ok ok' x cs hok h
    split at h
    · rename_i h5
      rw [if_pos h5]
      obtain ⟨v, rfl, h⟩ := h
      exact ⟨v, rfl, Kd.R_mono h hok⟩
    · rename_i h5
      rw [if_neg h5]
      exact h
  M_bound := by
    intro w base ok x cs h
    split at h
    · rename_i h5
      rw [if_pos h5]
      obtain ⟨v, rfl, h⟩ := h
      exact ⟨v, rfl, Kd.R_bound h⟩
    · rename_i h5
      rw [if_neg h5]
      exact h
  M_move := by
    intro w w1 base ok x cs hm h
    split at h
    · rename_i h5
      rw [if_pos h5]
      obtain ⟨v, rfl, h⟩ := h
      exact ⟨v, rfl, Kd.R_move h hm⟩
    · rename_i h5
      rw [if_neg h5]
      exact h
  M_lower := by
    intro w base base' ok x cs hb h
    split at h
    · rename_i h5
      rw [if_pos h5]
      obtain ⟨v, rfl, h⟩ := h
      exact ⟨v, rfl, Kd.R_lower h hb⟩
    · rename_i h5
      rw [if_neg h5]
      exact h
theorem info_iface : (Tryd.prog.info? 20).map (fun i => (i.zero, i.size, i.bytes)) = some (some .nilIface, 1, 16) := by kernel_rfl

/-- A value that is no list, as its kind says; such a one, or a list of such. -/
def atomR (x : S27) : Prop := 0 ≤ x.f0 ∧ x.f0 ≤ 4 ∧ x.f3 = [] ∧ (x.f1 = 0 ∨ x.f0 = 1) ∧ (x.f2 = ⟨#[]⟩ ∨ x.f0 = 2)
def rightR (x : S27) : Prop := atomR x ∨ (x.f0 = 5 ∧ x.f1 = 0 ∧ x.f2 = ⟨#[]⟩ ∧ ∀ y ∈ x.f3, atomR y)
theorem atomR.right {x : S27} (h : atomR x) : rightR x := .inl h
theorem atom_at (l : List S27) (P : S27 → Prop) (h : ∀ x ∈ l, P x) (i : Int) (h0 : 0 ≤ i) (h1 : i < l.length) : P (rd_T27 l i) := by
  unfold rd_T27
  rw [List.getD_eq_getElem?_getD, List.getElem?_eq_getElem (show i.toNat < l.length by omega)]
  exact h _ (List.getElem_mem _)
theorem take_next (l : List S27) (i : Int) (h0 : 0 ≤ i) (h1 : i < l.length) : l.take (i + 1).toNat = l.take i.toNat ++ [rd_T27 l i] := by
  unfold rd_T27
  rw [show (i + 1).toNat = i.toNat + 1 by omega, List.take_succ_eq_append_getElem (by omega), List.getD_eq_getElem?_getD, List.getElem?_eq_getElem (show i.toNat < l.length by omega)]
  rfl
end Go.Proofs.YtabaldpjahcilaaDoor.H
/-
  CONTRACTS: impl's goOf and goList: values that are right, as Go has them.
-/
namespace Go.Proofs.YtabaldpjahcilaaDoor.H
open Go.RowKit Go.Proofs.YtabaldpjahcilaaDoorW.PrintWords Go.Proofs.YtabaldpjahcilaaDoorW.PrintLast Go.Proofs.YtabaldpjahcilaaDoorW.PrintMore Go.Proofs.YtabaldpjahcilaaDoor.QD
set_option linter.unusedVariables false
set_option linter.unusedSimpArgs false

def AtomPost (x : S27) (w : World) (e : Ending) (w' : World) : Prop := e = .returned (.tuple #[encG x, .bool true]) ∧ Below w.heap.size w w'
theorem ret_tup {a b : Value} (h : a = b) : Ending.returned (.tuple #[a, .bool true]) = .returned (.tuple #[b, .bool true]) := by rw [h]
theorem one_below (w : World) (o : Obj) : Below w.heap.size w (w.alloc o) := below_alloc (Below.refl _ _) o

set_option maxHeartbeats 1600000 in
set_option maxRecDepth 100000 in
theorem goOf_atom (x : S27) (hx : atomR x) (A : Option Addr) (c : Nat) (d : Int) (w : World) :
    Calls Tryd.prog 24 #[.agg #[.int .i64 x.f0, .int .i64 x.f1, .string x.f2, .slice A x.f3.length c], .int .i64 d] w (AtomPost x w) := by
  obtain ⟨h0, h4, _⟩ := hx
  have hu := Tryd.underlying27
  have e : ∀ n : Int, x.f0 = n → encG x = (if n = 1 then .iface 2 (.int .i64 x.f1) else if n = 2 then .iface 9 (.string x.f2) else if n = 3 then .iface 4 (.bool true) else if n = 4 then .iface 4 (.bool false) else .nilIface) := fun n h => by unfold encG; rw [h]
  have e0 := Lib.hid e
  clear e
  generalize hk : x.f0 = k at h0 h4
  have : k = 0 ∨ k = 1 ∨ k = 2 ∨ k = 3 ∨ k = 4 := by omega
  rcases this with rfl | rfl | rfl | rfl | rfl
  all_goals
    have HE := Lib.hid (e0.out _ hk)
    clear hk e0 h0 h4
    go_enter Tryd.func24, Tryd.ntmps24
    go_wp2_with fail
    go_ret2
    exact ⟨ret_tup (by rw [HE.out]; simp), one_below _ _⟩

def ListPost (d : Kd S27) (l : List S27) (w : World) (e : Ending) (w' : World) : Prop := ∃ v : Value, e = .returned (.tuple #[v, .bool true]) ∧ d.R 20 w' w.heap.size (fun _ => True) v l ∧ Below w.heap.size w w'
/-- What goOf hands back of a right value. -/
def GoOfPost (x : S27) (w : World) (e : Ending) (w' : World) : Prop := ∃ u : Value, e = .returned (.tuple #[u, .bool true]) ∧ kG.M w' w.heap.size (fun _ => True) x [u] ∧ Below w.heap.size w w'

/-- What goOf owes of an element, that goList may append it. -/
def Gives (d : Kd S27) (dp : Int) (x : S27) : Prop := ∀ (A : Option Addr) (c : Nat) (w : World), k27.C w A x.f3.length x.f3 → x.f3.length ≤ c →
  Calls Tryd.prog 24 #[.agg #[.int .i64 x.f0, .int .i64 x.f1, .string x.f2, .slice A x.f3.length c], .int .i64 dp] w fun e w' => ∃ u : Value, e = .returned (.tuple #[u, .bool true]) ∧ d.M w' w.heap.size (fun _ => True) x [u] ∧ Below w.heap.size w w'

set_option maxHeartbeats 3200000 in
set_option maxRecDepth 100000 in
theorem goList_of (d : Kd S27) (hsz : d.sz = 1) (hif : ∀ w x u, d.K w x [u] → u = .nilIface ∨ ∃ t v, u = .iface t v) (l : List S27) (dp : Int) (h : ∀ x ∈ l, Gives d dp x) (hl : l.length ≤ 1048576) (A : Option Addr) (c : Nat) (w : World) (hC : k27.C w A l.length l) :
    Calls Tryd.prog 15 #[.slice A l.length c, .int .i64 dp] w (ListPost d l w) := by
  have H := Lib.hid h
  have HC := Lib.hid hC
  have HZ := Lib.hid hsz
  have HIF := Lib.hid hif
  clear h hC hsz hif
  have hu := Tryd.underlying27
  go_enter Tryd.func15, Tryd.ntmps15
  go_wp2_with fail
  go_loopg [6, 14] l.length (fun g v6 v14 w' => ∃ (i : Int), v14 = .int .i64 i ∧ Hid (0 ≤ i ∧ i + g = l.length) ∧ Hid (d.R 20 w' w.heap.size (fun _ => True) v6 (l.take i.toNat)) ∧ Below w.heap.size w w')
  case atStart => exact ⟨0, rfl, Lib.hid ⟨by omega, by omega⟩, Lib.hid ⟨fun _ _ => trivial, OwnRow.lit (inner := []) w _ (Reps.none _ _) (Nat.le_refl _) (by simp)⟩, one_below _ _⟩
  case round =>
    obtain ⟨i, rfl, HI, HO, HB⟩ := hrel
    have hi := HI.out
    cases gk with
    | zero =>
      have hge : ¬ i < (l.length : Int) := by omega
      have hall : l.take i.toNat = l := List.take_of_length_le (by omega)
      have HO2 := HO.out
      rw [hall] at HO2
      have HF := Lib.hid HO2
      clear hi hall HO2
      go_wp2_with fail
      go_ret2
      exact ⟨_, rfl, HF.out, HB⟩
    | succ g =>
      have hlt : i < (l.length : Int) := by omega
      have h0 : 0 ≤ i := hi.1
      obtain ⟨ad, B3, b3, rfl, q0, q1, q2, q3, ql, qC⟩ := at_T27 (Kd.C_below HC.out HB) i h0 hlt
      have HX := Lib.hid (atom_at l (Gives d dp) H.out i h0 hlt)
      have HT := Lib.hid (take_next l i h0 hlt)
      have HQ := Lib.hid qC
      have HQL := Lib.hid ql
      clear qC ql hi
      generalize rd_T27 l i = x at q0 q1 q2 q3 HX HQ HQL HT
      go_wp2_with fail
      refine (HX.out B3 b3 _ (Kd.C_below HQ.out (one_below _ _)) HQL.out).mono ?_
      rintro e w2 ⟨u, rfl, hM, hb⟩
      have HU := HIF.out _ _ _ (d.K_of_M hM)
      have HB2 : Below w.heap.size w w2 := (below_alloc HB _).trans (hb.mono (below_alloc HB _).size)
      have HO2 := Lib.hid (Kd.R_below (Kd.R_alloc HO.out _) hb)
      have HM2 := Lib.hid (d.M_lower (base' := w.heap.size) (below_alloc HB _).size (d.M_bound hM))
      have hlt2 := Kd.R_lt (Kd.R_alloc HO.out (.cells #[.int .i64 x.f0, .int .i64 x.f1, .string x.f2, .slice B3 x.f3.length b3] 27))
      have HLT := Lib.hid hlt2
      have hbase := HB2.size
      have hzz : (Tryd.prog.info? 20).map (fun i => (i.zero, i.size, i.bytes)) = some (some .nilIface, d.sz, 16) := by rw [HZ.out]; exact info_iface
      have HINF := Lib.hid hzz
      have hz1 : (Value.nilIface).cells.size = d.sz := by rw [HZ.out]; rfl
      have HZ1 := Lib.hid hz1
      have hz0 : 0 < d.sz := by rw [HZ.out]; omega
      clear hM hb hlt2 hzz hz1
      rcases HU with rfl | ⟨t, v, rfl⟩
      all_goals
        go_wp2_with (first | ((with_reducible refine gate_builtin (b := .append) (xs := #[.tmp 26, .tmp 28]) rfl ?_); at_builtin; refine Kd.R_append d (w0 := w) w.heap.size rfl (.tmp 26) (.tmp 28) 36 20 .nilIface 16 rfl Tryd.underlying36 HINF.out HZ1.out hz0 (by omega) u6 (l.take i.toNat) x _ (fun _ => True) _ rfl rfl HM2.out (fun k hk => ⟨trivial, fun he => absurd (HLT.out k he.symm) (Nat.not_lt.mpr hk.2.1)⟩) (fun _ _ => trivial) HO2.out HB2 hbase (by rw [List.length_take]; omega) ?_))
        intro v1 w1 hO1 hB1 _ _
        have HO3 := Lib.hid (by rw [← HT.out] at hO1; exact hO1)
        clear hO1
        go_wp2_with fail
        go_roundg g
        case measure => omega
        case rel => exact ⟨i + 1, rfl, Lib.hid (by have := HI.out; omega), HO3, hB1⟩

theorem encG_if (x : S27) : encG x = .nilIface ∨ ∃ t v, encG x = .iface t v := by
  unfold encG
  split
  · exact .inr ⟨_, _, rfl⟩
  · split
    · exact .inr ⟨_, _, rfl⟩
    · split
      · exact .inr ⟨_, _, rfl⟩
      · split
        · exact .inr ⟨_, _, rfl⟩
        · exact .inl rfl
theorem kGA_if : ∀ w x u, kGA.K w x [u] → u = .nilIface ∨ ∃ t v, u = .iface t v := fun w x u h => by
  have h' : [u] = [encG x] := h
  injection h' with h'
  rw [h']
  exact encG_if x
theorem kG_if : ∀ w x u, kG.K w x [u] → u = .nilIface ∨ ∃ t v, u = .iface t v := fun w x u h => by
  have h' : (if x.f0 = 5 then ∃ A c, [u] = [.iface 36 (.slice A x.f3.length c)] ∧ x.f3.length ≤ c ∧ kGA.C w A x.f3.length x.f3 else [u] = [encG x]) := h
  split at h'
  · obtain ⟨A, c, h', _⟩ := h'
    injection h' with h'
    exact .inr ⟨_, _, h'⟩
  · injection h' with h'
    rw [h']
    exact encG_if x
theorem atom_gives (x : S27) (hx : atomR x) (dp : Int) : Gives kGA dp x := fun A c w _ _ =>
  (goOf_atom x hx A c dp w).mono fun e w' ⟨he, hb⟩ => ⟨encG x, he, rfl, hb⟩
theorem goList_atoms (l : List S27) (h : ∀ x ∈ l, atomR x) (dp : Int) (hl : l.length ≤ 1048576) (A : Option Addr) (c : Nat) (w : World) (hC : k27.C w A l.length l) :
    Calls Tryd.prog 15 #[.slice A l.length c, .int .i64 dp] w (ListPost kGA l w) :=
  goList_of kGA rfl kGA_if l dp (fun x hx => atom_gives x (h x hx) dp) hl A c w hC

set_option maxHeartbeats 1600000 in
set_option maxRecDepth 100000 in
theorem goOf_list (x : S27) (hx : x.f0 = 5) (ha : ∀ y ∈ x.f3, atomR y) (hl : x.f3.length ≤ 1048576) : Gives kG 0 x := by
  intro A c w hC hc
  have HC := Lib.hid hC
  have HA := Lib.hid ha
  have HL := Lib.hid hl
  have hu := Tryd.underlying27
  have HX := Lib.hid hx
  rw [hx]
  clear hC ha hl hx
  go_enter Tryd.func24, Tryd.ntmps24
  go_wp2_with fail
  refine (goList_atoms x.f3 HA.out 1 HL.out A c _ (Kd.C_below HC.out (one_below _ _))).mono ?_
  rintro e w1 ⟨v, rfl, hR, hb⟩
  have HR := Lib.hid hR
  have HB := Lib.hid hb
  clear hR hb
  go_wp2_with fail
  go_ret2
  refine ⟨_, rfl, ?_, (one_below _ _).trans (HB.out.mono (by simp))⟩
  show (if x.f0 = 5 then _ else _)
  rw [if_pos HX.out]
  exact ⟨v, rfl, Kd.R_lower HR.out (by simp)⟩
theorem right_gives (x : S27) (hx : rightR x) (hl : x.f3.length ≤ 1048576) : Gives kG 0 x := by
  rcases hx with h | ⟨h5, _, _, ha⟩
  · intro A c w _ _
    refine (goOf_atom x h A c 0 w).mono fun e w' ⟨he, hb⟩ => ⟨encG x, he, ?_, hb⟩
    show (if x.f0 = 5 then _ else _)
    rw [if_neg (by have := h.2.1; omega)]
  · exact goOf_list x h5 ha hl
/-- goList of right values. -/
theorem goList_right (l : List S27) (h : ∀ x ∈ l, rightR x ∧ x.f3.length ≤ 1048576) (hl : l.length ≤ 1048576) (A : Option Addr) (c : Nat) (w : World) (hC : k27.C w A l.length l) :
    Calls Tryd.prog 15 #[.slice A l.length c, .int .i64 0] w (ListPost kG l w) :=
  goList_of kG rfl kG_if l 0 (fun x hx => right_gives x (h x hx).1 (h x hx).2) hl A c w hC
end Go.Proofs.YtabaldpjahcilaaDoor.H
/-
  CONTRACTS: valueOf and valuesOf give back the values of which Go's interfaces were made (right values: none, or lists of such).
-/
namespace Go.Proofs.YtabaldpjahcilaaDoor.H
open Go.RowKit Go.Proofs.YtabaldpjahcilaaDoorW.PrintWords Go.Proofs.YtabaldpjahcilaaDoorW.PrintLast Go.Proofs.YtabaldpjahcilaaDoorW.PrintMore Go.Proofs.YtabaldpjahcilaaDoor.QD
set_option linter.unusedVariables false
set_option linter.unusedSimpArgs false

theorem assert_yes {P : Program} {T : TypeId} {d : TypeDesc} (hu : P.underlying T = some d) (hd : ∀ ms, d ≠ .interface ms) (xT : TypeId) (v : Value) (W : World) : (Instr.typeAssert (.iface T v) xT T true).run P W = .ok (.tuple #[v, .bool true]) W := by
  unfold Instr.typeAssert
  simp only [Sem.run_bind, run_underlying hu, Result.andThen]
  cases d <;> simp_all [Sem.run_pure]
theorem assert_no {P : Program} {T t : TypeId} {d : TypeDesc} {i : TypeInfo} {z : Value} (hu : P.underlying T = some d) (hd : ∀ ms, d ≠ .interface ms) (hi : P.info? T = some i) (hz : i.zero = some z) (hne : t ≠ T) (xT : TypeId) (v : Value) (W : World) : (Instr.typeAssert (.iface t v) xT T true).run P W = .ok (.tuple #[z, .bool false]) W := by
  unfold Instr.typeAssert
  simp only [Sem.run_bind, run_underlying hu, Result.andThen]
  cases d <;> simp_all [Sem.run_pure, zeroValue, typeInfo, Result.andThen]
theorem ta_int_yes (v : Value) (W : World) : (Instr.typeAssert (.iface 2 v) 20 2 true).run Tryd.prog W = .ok (.tuple #[v, .bool true]) W := assert_yes Tryd.underlying2 (fun _ h => by cases h) _ v W
theorem ta_int_no (t : TypeId) (v : Value) (h : t ≠ 2) (W : World) : (Instr.typeAssert (.iface t v) 20 2 true).run Tryd.prog W = .ok (.tuple #[.int .i64 0, .bool false]) W := by
  obtain ⟨i, hi, hz⟩ := Option.map_eq_some_iff.1 (show (Tryd.prog.info? 2).map (·.zero) = some (some (.int .i64 0)) by kernel_rfl)
  exact assert_no Tryd.underlying2 (fun _ h => by cases h) hi hz h _ v W
theorem ta_str_yes (v : Value) (W : World) : (Instr.typeAssert (.iface 9 v) 20 9 true).run Tryd.prog W = .ok (.tuple #[v, .bool true]) W := assert_yes Tryd.underlying9 (fun _ h => by cases h) _ v W
theorem ta_str_no (t : TypeId) (v : Value) (h : t ≠ 9) (W : World) : (Instr.typeAssert (.iface t v) 20 9 true).run Tryd.prog W = .ok (.tuple #[.string ⟨#[]⟩, .bool false]) W := by
  obtain ⟨i, hi, hz⟩ := Option.map_eq_some_iff.1 (show (Tryd.prog.info? 9).map (·.zero) = some (some (.string ⟨#[]⟩)) by kernel_rfl)
  exact assert_no Tryd.underlying9 (fun _ h => by cases h) hi hz h _ v W
theorem ta_bool_yes (v : Value) (W : World) : (Instr.typeAssert (.iface 4 v) 20 4 true).run Tryd.prog W = .ok (.tuple #[v, .bool true]) W := assert_yes Tryd.underlying4 (fun _ h => by cases h) _ v W
theorem ta_bool_no (t : TypeId) (v : Value) (h : t ≠ 4) (W : World) : (Instr.typeAssert (.iface t v) 20 4 true).run Tryd.prog W = .ok (.tuple #[.bool false, .bool false]) W := by
  obtain ⟨i, hi, hz⟩ := Option.map_eq_some_iff.1 (show (Tryd.prog.info? 4).map (·.zero) = some (some (.bool false)) by kernel_rfl)
  exact assert_no Tryd.underlying4 (fun _ h => by cases h) hi hz h _ v W
theorem ta_list_yes (v : Value) (W : World) : (Instr.typeAssert (.iface 36 v) 20 36 true).run Tryd.prog W = .ok (.tuple #[v, .bool true]) W := assert_yes Tryd.underlying36 (fun _ h => by cases h) _ v W
theorem ta_list_no (t : TypeId) (v : Value) (h : t ≠ 36) (W : World) : (Instr.typeAssert (.iface t v) 20 36 true).run Tryd.prog W = .ok (.tuple #[.slice none 0 0, .bool false]) W := by
  obtain ⟨i, hi, hz⟩ := Option.map_eq_some_iff.1 (show (Tryd.prog.info? 36).map (·.zero) = some (some (.slice none 0 0)) by kernel_rfl)
  exact assert_no Tryd.underlying36 (fun _ h => by cases h) hi hz h _ v W
/-- What valueOf hands back. -/
def BackPost (x : S27) (w : World) (e : Ending) (w' : World) : Prop := ∃ v : Value, e = .returned (.agg #[.int .i64 x.f0, .int .i64 x.f1, .string x.f2, v]) ∧ k27.R 27 w' w.heap.size (fun _ => True) v x.f3 ∧ Below w.heap.size w w'
set_option maxHeartbeats 3200000 in
set_option maxRecDepth 100000 in
theorem valueOf_atom (x : S27) (hx : atomR x) (w : World) : Calls Tryd.prog 36 #[encG x] w (BackPost x w) := by
  obtain ⟨h0, h4, hl, h1, h2⟩ := hx
  obtain ⟨k, n, t, l⟩ := x
  simp only [] at h0 h4 hl h1 h2
  subst hl
  have : k = 0 ∨ k = 1 ∨ k = 2 ∨ k = 3 ∨ k = 4 := by omega
  rcases this with rfl | rfl | rfl | rfl | rfl
  · obtain rfl : n = 0 := by omega
    obtain rfl : t = ⟨#[]⟩ := by simpa using h2
    show Calls _ _ #[.nilIface] _ _
    go_enter Tryd.func36, Tryd.ntmps36
    go_wp2_with fail
    (try simp only [Exit.inBlock, Exit.then])
    refine bodyPost_ret (results_cell_row (P := Tryd.prog) rfl _ _ w.heap.size 27 _ (0, 0) _ rfl (heap_alloc_new w _) Tryd.underlying27 rfl (by kernel_rfl)) rfl ?_
    exact ⟨.slice none 0 0, rfl, Kd.R_nil _ _ _ _ _, one_below _ _⟩
  · obtain rfl : t = ⟨#[]⟩ := by simpa using h2
    show Calls _ _ #[.iface 2 (.int .i64 n)] _ _
    have t1 := ta_int_yes (.int .i64 n)
    go_enter Tryd.func36, Tryd.ntmps36
    go_wp2_with fail
    (try simp only [Exit.inBlock, Exit.then])
    refine bodyPost_ret (results_cell_row (P := Tryd.prog) rfl _ _ w.heap.size 27 _ (0, 0) _ rfl (heap_alloc_new w _) Tryd.underlying27 rfl (by kernel_rfl)) rfl ?_
    exact ⟨.slice none 0 0, rfl, Kd.R_nil _ _ _ _ _, one_below _ _⟩
  · obtain rfl : n = 0 := by omega
    show Calls _ _ #[.iface 9 (.string t)] _ _
    have t1 := ta_int_no 9 (.string t) (by decide)
    have t2 := ta_str_yes (.string t)
    go_enter Tryd.func36, Tryd.ntmps36
    go_wp2_with fail
    (try simp only [Exit.inBlock, Exit.then])
    refine bodyPost_ret (results_cell_row (P := Tryd.prog) rfl _ _ w.heap.size 27 _ (0, 0) _ rfl (heap_alloc_new w _) Tryd.underlying27 rfl (by kernel_rfl)) rfl ?_
    exact ⟨.slice none 0 0, rfl, Kd.R_nil _ _ _ _ _, one_below _ _⟩
  · obtain rfl : n = 0 := by omega
    obtain rfl : t = ⟨#[]⟩ := by simpa using h2
    show Calls _ _ #[.iface 4 (.bool true)] _ _
    have t1 := ta_int_no 4 (.bool true) (by decide)
    have t2 := ta_str_no 4 (.bool true) (by decide)
    have t3 := ta_bool_yes (.bool true)
    go_enter Tryd.func36, Tryd.ntmps36
    go_wp2_with fail
    (try simp only [Exit.inBlock, Exit.then])
    refine bodyPost_ret (results_cell_row (P := Tryd.prog) rfl _ _ w.heap.size 27 _ (0, 0) _ rfl (heap_alloc_new w _) Tryd.underlying27 rfl (by kernel_rfl)) rfl ?_
    exact ⟨.slice none 0 0, rfl, Kd.R_nil _ _ _ _ _, one_below _ _⟩
  · obtain rfl : n = 0 := by omega
    obtain rfl : t = ⟨#[]⟩ := by simpa using h2
    show Calls _ _ #[.iface 4 (.bool false)] _ _
    have t1 := ta_int_no 4 (.bool false) (by decide)
    have t2 := ta_str_no 4 (.bool false) (by decide)
    have t3 := ta_bool_yes (.bool false)
    go_enter Tryd.func36, Tryd.ntmps36
    go_wp2_with fail
    (try simp only [Exit.inBlock, Exit.then])
    refine bodyPost_ret (results_cell_row (P := Tryd.prog) rfl _ _ w.heap.size 27 _ (0, 0) _ rfl (heap_alloc_new w _) Tryd.underlying27 rfl (by kernel_rfl)) rfl ?_
    exact ⟨.slice none 0 0, rfl, Kd.R_nil _ _ _ _ _, one_below _ _⟩

theorem info_val : (Tryd.prog.info? 27).map (fun i => (i.zero, i.size, i.bytes)) = some (some (.agg #[.int .i64 0, .int .i64 0, .string ⟨#[]⟩, .slice none 0 0]), 4, 56) := by kernel_rfl
/-- What valueOf owes of an element. -/
def Backs (d : Kd S27) (x : S27) : Prop := ∀ (u : Value) (w : World), d.K w x [u] → Calls Tryd.prog 36 #[u] w (BackPost x w)
theorem one_cell {d : Kd S27} (hsz : d.sz = 1) {l : List S27} {w : World} {A : Option Addr} {n : Nat} (h : d.C w A n l) (i : Int) (h0 : 0 ≤ i) (h1 : i < n) : ∃ ad u, A = some ad ∧ d.K w (rd_T27 l i) [u] ∧ w.cell? (ad.add i.toNat) = some u := by
  obtain ⟨ad, c, e, hl, hK, hc0⟩ := Kd.C_get h z27 i h0 h1
  have hlen := d.K_len hK
  rw [hsz] at hlen hc0
  obtain ⟨u, rfl⟩ : ∃ u, c = [u] := List.length_eq_one_iff.1 hlen
  refine ⟨ad, u, e, hK, ?_⟩
  have := hc0 0 u rfl
  simpa using this
set_option maxHeartbeats 3200000 in
set_option maxRecDepth 100000 in
theorem valuesOf_of (d : Kd S27) (hsz : d.sz = 1) (l : List S27) (h : ∀ x ∈ l, Backs d x) (hl : l.length ≤ 1048576) (A : Option Addr) (c : Nat) (w : World) (hC : d.C w A l.length l) :
    Calls Tryd.prog 30 #[.slice A l.length c] w fun e w' => ∃ v : Value, e = .returned v ∧ k27.R 27 w' w.heap.size (fun _ => True) v l ∧ Below w.heap.size w w' := by
  have H := Lib.hid h
  have HC := Lib.hid hC
  have HZ := Lib.hid hsz
  clear h hC hsz
  go_enter Tryd.func30, Tryd.ntmps30
  go_wp2_with fail
  go_loopg [3, 8] l.length (fun g v3 v8 w' => ∃ (i : Int), v8 = .int .i64 i ∧ Hid (0 ≤ i ∧ i + g = l.length) ∧ Hid (k27.R 27 w' w.heap.size (fun _ => True) v3 (l.take i.toNat)) ∧ Hid (Below w.heap.size w w'))
  case atStart => exact ⟨0, rfl, Lib.hid ⟨by omega, by omega⟩, Lib.hid (Kd.R_nil _ _ _ _ _), Lib.hid (Below.refl _ _)⟩
  case round =>
    obtain ⟨i, rfl, HI, HO, HB⟩ := hrel
    have hi := HI.out
    cases gk with
    | zero =>
      have hge : ¬ i < (l.length : Int) := by omega
      have hall : l.take i.toNat = l := List.take_of_length_le (by omega)
      have HO2 := HO.out
      rw [hall] at HO2
      have HF := Lib.hid HO2
      clear hi hall HO2
      go_wp2_with fail
      go_ret
      exact ⟨_, rfl, HF.out, HB.out⟩
    | succ g =>
      have hlt : i < (l.length : Int) := by omega
      have h0 : 0 ≤ i := hi.1
      obtain ⟨ad, u, rfl, hK, hcell⟩ := one_cell HZ.out (Kd.C_below HC.out HB.out) i h0 hlt
      have HX := Lib.hid (atom_at l (Backs d) H.out i h0 hlt)
      have HT := Lib.hid (take_next l i h0 hlt)
      have HK := Lib.hid hK
      clear hi hK
      generalize rd_T27 l i = x at HX HK HT
      go_wp2_with fail
      refine (HX.out u _ HK.out).mono ?_
      rintro e w2 ⟨v, rfl, hR, hb⟩
      obtain ⟨A2, c2, e2⟩ := Kd.R_slice hR
      subst e2
      have HB2 : Below w.heap.size w w2 := HB.out.trans (hb.mono HB.out.size)
      have HO2 := Lib.hid (Kd.R_below HO.out hb)
      have hM := k27_mkM w2 wr.heap.size (fun _ => True) x hR
      have HM2 := Lib.hid (k27.M_lower (base' := w.heap.size) HB.out.size (k27.M_bound hM))
      have HLT := Lib.hid (Kd.R_lt HO.out)
      have hbase := HB2.size
      clear hR hM hb HK hcell
      go_wp2_with (first | ((with_reducible refine gate_builtin (b := .append) (xs := #[.tmp 12, .tmp 15]) rfl ?_); at_builtin; refine Kd.R_append k27 (w0 := w) w.heap.size rfl (.tmp 12) (.tmp 15) 22 27 (.agg #[.int .i64 0, .int .i64 0, .string ⟨#[]⟩, .slice none 0 0]) 56 rfl Tryd.underlying22 info_val rfl (by decide) (by omega) u3 (l.take i.toNat) x _ (fun _ => True) _ rfl rfl HM2.out (fun k hk => ⟨trivial, fun he => absurd (HLT.out k he.symm) (Nat.not_lt.mpr hk.2.1)⟩) (fun _ _ => trivial) HO2.out HB2 hbase (by rw [List.length_take]; omega) ?_))
      intro v1 w1 hO1 hB1 _ _
      have HO3 := Lib.hid (by rw [← HT.out] at hO1; exact hO1)
      have HB3 := Lib.hid hB1
      clear hO1 hB1
      go_wp2_with fail
      go_roundg g
      case measure => omega
      case rel => exact ⟨i + 1, rfl, Lib.hid (by have := HI.out; omega), HO3, HB3⟩
theorem atom_backs (x : S27) (hx : atomR x) : Backs kGA x := by
  intro u w h
  have h' : [u] = [encG x] := h
  injection h' with h'
  rw [h']
  exact valueOf_atom x hx w
set_option maxHeartbeats 3200000 in
set_option maxRecDepth 100000 in
theorem valueOf_list (x : S27) (hx : x.f0 = 5) (h1 : x.f1 = 0) (h2 : x.f2 = ⟨#[]⟩) (ha : ∀ y ∈ x.f3, atomR y) (hl : x.f3.length ≤ 1048576) : Backs kG x := by
  intro u w hK
  have hK' : (if x.f0 = 5 then ∃ A c, [u] = [.iface 36 (.slice A x.f3.length c)] ∧ x.f3.length ≤ c ∧ kGA.C w A x.f3.length x.f3 else [u] = [encG x]) := hK
  rw [if_pos hx] at hK'
  obtain ⟨A, c, hu, _, hC⟩ := hK'
  injection hu with hu
  subst hu
  have HV := Lib.hid (valuesOf_of kGA rfl x.f3 (fun y hy => atom_backs y (ha y hy)) hl A c (w.alloc (.cells #[.int .i64 0, .int .i64 0, .string ⟨#[]⟩, .slice none 0 0] 27)) (Kd.C_below hC (one_below _ _)))
  unfold BackPost
  rw [hx, h1, h2]
  have t1 := ta_int_no 36 (.slice A x.f3.length c) (by decide)
  have t2 := ta_str_no 36 (.slice A x.f3.length c) (by decide)
  have t3 := ta_bool_no 36 (.slice A x.f3.length c) (by decide)
  have t4 := ta_list_yes (.slice A x.f3.length c)
  clear hK hC hx h1 h2 ha hl
  go_enter Tryd.func36, Tryd.ntmps36
  go_wp2_with fail
  refine HV.out.mono ?_
  rintro e w1 ⟨v, rfl, hR, hb⟩
  have HR := Lib.hid hR
  have HB := Lib.hid hb
  obtain ⟨A2, n2, e2⟩ := Kd.R_slice hR
  subst e2
  have hrow : w1.heap[w.heap.size]? = some (.cells #[.int .i64 0, .int .i64 0, .string ⟨#[]⟩, .slice none 0 0] 27) := by
    rw [hb.block w.heap.size (by show w.heap.size < (w.heap.push _).size; simp)]
    exact heap_alloc_new w _
  have c0 := cell_of_row w1 w.heap.size 0 _ _ _ hrow
  have c1 := cell_of_row w1 w.heap.size 1 _ _ _ hrow
  have c2 := cell_of_row w1 w.heap.size 2 _ _ _ hrow
  have c3 := cell_of_row w1 w.heap.size 3 _ _ _ hrow
  have f0 := frozen_of_row w1 w.heap.size 0 _ _ hrow
  have f1 := frozen_of_row w1 w.heap.size 1 _ _ hrow
  have f2 := frozen_of_row w1 w.heap.size 2 _ _ hrow
  have f3 := frozen_of_row w1 w.heap.size 3 _ _ hrow
  have HROW := Lib.hid hrow
  simp only [List.getElem?_toArray, List.getElem?_cons_zero, List.getElem?_cons_succ] at c0 c1 c2 c3
  clear hR hb HV t1 t2 t3 t4 hrow
  go_wp2_with fail
  (try simp only [Exit.inBlock, Exit.then])
  have r0 := heap_setCell_same w1 w.heap.size 0 _ _ (.int .i64 5) HROW.out
  have r1 := heap_setCell_same _ w.heap.size 1 _ _ (.int .i64 0) r0
  have r2 := heap_setCell_same _ w.heap.size 2 _ _ (.string ⟨#[]⟩) r1
  have r3 := heap_setCell_same _ w.heap.size 3 _ _ (.slice A2 x.f3.length n2) r2
  refine bodyPost_ret (results_cell_row (P := Tryd.prog) rfl _ _ w.heap.size 27 _ (0, 0) _ rfl r3 Tryd.underlying27 rfl (by kernel_rfl)) rfl ?_
  refine ⟨.slice A2 x.f3.length n2, rfl, ?_, below_set (below_set (below_set (below_set ((one_below _ _).trans (HB.out.mono (by simp))) (Nat.le_refl _)) (Nat.le_refl _)) (Nat.le_refl _)) (Nat.le_refl _)⟩
  have hw : w.heap.size < (w.alloc (.cells #[.int .i64 0, .int .i64 0, .string ⟨#[]⟩, .slice none 0 0] 27)).heap.size := by
    show w.heap.size < (w.heap.push _).size
    simp
  refine Kd.R_lower (Kd.R_mono (Kd.R_move (Kd.R_bound HR.out) (fun k hk => ?_)) (fun _ hk => hk.1)) (Nat.le_of_lt hw)
  have hk2 : k ≠ w.heap.size := by have := hk.2.1; omega
  rw [heap_setCell_other _ _ k _ hk2, heap_setCell_other _ _ k _ hk2, heap_setCell_other _ _ k _ hk2, heap_setCell_other _ _ k _ hk2]
/-- valueOf of what goOf made of a right value. -/
theorem right_backs (x : S27) (hx : rightR x) (hl : x.f3.length ≤ 1048576) : Backs kG x := by
  rcases hx with h | ⟨h5, h1, h2, ha⟩
  · intro u w hK
    have hK' : (if x.f0 = 5 then ∃ A c, [u] = [.iface 36 (.slice A x.f3.length c)] ∧ x.f3.length ≤ c ∧ kGA.C w A x.f3.length x.f3 else [u] = [encG x]) := hK
    rw [if_neg (by have := h.2.1; omega)] at hK'
    injection hK' with hu
    rw [hu]
    exact valueOf_atom x h w
  · exact valueOf_list x h5 h1 h2 ha hl
theorem valuesOf_right (l : List S27) (h : ∀ x ∈ l, rightR x ∧ x.f3.length ≤ 1048576) (hl : l.length ≤ 1048576) (A : Option Addr) (c : Nat) (w : World) (hC : kG.C w A l.length l) :
    Calls Tryd.prog 30 #[.slice A l.length c] w fun e w' => ∃ v : Value, e = .returned v ∧ k27.R 27 w' w.heap.size (fun _ => True) v l ∧ Below w.heap.size w w' :=
  valuesOf_of kG rfl l (fun x hx => right_backs x (h x hx).1 (h x hx).2) hl A c w hC
end Go.Proofs.YtabaldpjahcilaaDoor.H
/-
  CONTRACTS: errors.New; rows of interface values of the call's own.
-/
namespace Go.Proofs.YtabaldpjahcilaaDoor.H
open Go.RowKit Go.Proofs.YtabaldpjahcilaaDoorW.PrintWords Go.Proofs.YtabaldpjahcilaaDoorW.PrintLast Go.Proofs.YtabaldpjahcilaaDoorW.PrintMore Go.Proofs.YtabaldpjahcilaaDoor.QD
set_option linter.unusedVariables false
set_option linter.unusedSimpArgs false

/-- A row of interface values of the call's own: these values, as they lie in w0. -/
def ARow (w0 : World) (B : Nat) (vs : List S27) (v : Value) (w : World) : Prop := OwnRow (kG.K w0) 20 1 w B v vs
theorem ARow.got {w0 w : World} {B : Nat} {vs : List S27} {v : Value} (h : ARow w0 B vs v w) (hb : Below w0.heap.size w0 w) : ∃ A c, v = .slice A vs.length c ∧ vs.length ≤ c ∧ kG.C w A vs.length vs := by
  obtain ⟨A, c, e, hl, hr⟩ := OwnRow.reads h
  exact ⟨A, c, e, hl, hr.imp_ (Below.refl _ _) (fun _ _ hp => kG.K_below hb hp)⟩
section
variable {ops : Array Oper} {rest : List Oper} {o : Oper} {a : Act} {Q : Exit → Act → World → Prop}
end
end Go.Proofs.YtabaldpjahcilaaDoor.H
/-
  CONTRACTS: a map from names to interface values (as goOf makes them): made, looked up, stored.
-/
namespace Go.Proofs.YtabaldpjahcilaaDoor.H
open Go.RowKit Go.Proofs.YtabaldpjahcilaaDoorW.PrintWords Go.Proofs.YtabaldpjahcilaaDoorW.PrintLast Go.Proofs.YtabaldpjahcilaaDoorW.PrintMore Go.Proofs.YtabaldpjahcilaaDoor.QD
open Go.Maps (Keyed)
set_option linter.unusedVariables false
set_option linter.unusedSimpArgs false

/-- A name with a value. -/
structure ArgX where
  f0 : ByteArray
  f1 : S27
/-- An element as it lies, held. -/
def rdv (v : Value) : Option (DataW Value × List MemPlace) := some (.held v, [])
def keyL (s : ByteArray) : Lit := .string s.data.toList
theorem keyL_inj {s t : ByteArray} (h : keyL s = keyL t) : s = t := by
  unfold keyL at h
  injection h with h
  exact ByteArray.ext (Array.toList_inj.1 h)
theorem mkeyed : Keyed Tryd.prog 9 := Maps.string_keyed Tryd.underlying9
theorem key_at (s : ByteArray) (h : s.size ≤ maxLen) : keyOf Tryd.prog 9 (.string s) = some (keyL s) := WideMaps.keyOf_string_mk Tryd.underlying9 h
theorem key_lit (s : ByteArray) (h : s.size ≤ maxLen) : WideAt.IsKeyLit (keyL s) := mkeyed.key (key_at s h)
theorem zero_iface (w : World) : (zeroValue 20).run Tryd.prog w = .ok .nilIface w := by
  obtain ⟨i, hi, hz⟩ := Option.map_eq_some_iff.1 (show (Tryd.prog.info? 20).map (·.zero) = some (some .nilIface) by kernel_rfl)
  simp [zeroValue, typeInfo, hi, hz, Result.andThen]
def mz : DataW Value := .held .nilIface
/-- Block b of w is a map that has these arguments, each as goOf made it (in blocks that are ok), and no other names. -/
structure MapIs (ok : Nat → Prop) (w : World) (b : Nat) (l : List ArgX) : Prop where
  own : ∃ D n, w.ownsMap Tryd.prog 9 rdv b n D ∧ n ≤ l.length ∧ (∀ x ∈ l, ∃ u, D.atKey (keyL x.f0) mz = .held u ∧ Maps.has D (keyL x.f0) = true ∧ kG.M w 0 ok x.f1 [u]) ∧ ∀ s, (∀ x ∈ l, x.f0 ≠ s) → Maps.has D (keyL s) = false
theorem MapIs.made (ok : Nat → Prop) (w : World) : MapIs ok (w.alloc (.map #[] 0)) w.heap.size [] :=
  ⟨_, 0, World.ownsMap_made w _ _ _, Nat.le_refl _, fun x hx => (by cases hx), fun s _ => rfl⟩
theorem MapIs.lt {ok : Nat → Prop} {w : World} {b : Nat} {l : List ArgX} (h : MapIs ok w b l) : b < w.heap.size := by
  obtain ⟨D, n, ho, _⟩ := h
  exact ho.lt
theorem MapIs.mono {ok ok' : Nat → Prop} {w : World} {b : Nat} {l : List ArgX} (h : MapIs ok w b l) (hk : ∀ k, ok k → k < w.heap.size → ok' k) : MapIs ok' w b l := by
  obtain ⟨D, n, ho, hn, hx, hz⟩ := h
  refine ⟨D, n, ho, hn, fun x hl => ?_, hz⟩
  obtain ⟨u, h1, h2, h3⟩ := hx x hl
  exact ⟨u, h1, h2, kG.M_mono (fun k hq => hk k hq.1 hq.2.2.1) (kG.M_bound h3)⟩
theorem MapIs.move {ok : Nat → Prop} {w w' : World} {b : Nat} {l : List ArgX} (h : MapIs ok w b l) (hb : w'.heap[b]? = w.heap[b]?) (hm : ∀ k, ok k → k < w.heap.size → w'.heap[k]? = w.heap[k]?) : MapIs ok w' b l := by
  obtain ⟨D, n, ho, hn, hx, hz⟩ := h
  have hlt := ho.lt
  obtain ⟨es, clock, he, F, hs, hD⟩ := ho
  refine ⟨D, n, ⟨es, clock, hb.trans he, F, hs, hD⟩, hn, fun x hl => ?_, hz⟩
  obtain ⟨u, h1, h2, h3⟩ := hx x hl
  exact ⟨u, h1, h2, Kd.M_step h3 (fun k hk hlt => hm k hk hlt)⟩
theorem MapIs.step {ok : Nat → Prop} {w w' : World} {b : Nat} {l : List ArgX} (h : MapIs ok w b l) (hm : ∀ k, k < w.heap.size → w'.heap[k]? = w.heap[k]?) : MapIs ok w' b l :=
  h.move (hm b h.lt) (fun k _ hk => hm k hk)
theorem MapIs.below {ok : Nat → Prop} {w w' : World} {b : Nat} {l : List ArgX} (h : MapIs ok w b l) (hb : Below w.heap.size w w') : MapIs ok w' b l := h.step (fun k hk => hb.block k hk)
/-- A row has grown, none of the map's. -/
theorem MapIs.grown {ok : Nat → Prop} {w w' : World} {b : Nat} {l : List ArgX} (h : MapIs ok w b l) {row : Option Nat} (hg : w.grownBy w' row) (hb : some b ≠ row) (hok : ∀ k, ok k → some k ≠ row) : MapIs ok w' b l :=
  h.move (hg.block b h.lt hb) (fun k hk hlt => hg.block k hlt (hok k hk))
theorem look_miss {ok : Nat → Prop} {w : World} {b : Nat} {l : List ArgX} (h : MapIs ok w b l) (s : ByteArray) (hx : ∀ x ∈ l, x.f0 ≠ s) (hs : s.size ≤ maxLen) :
    (Instr.lookup 45 (.map (some b)) (.string s) true).run Tryd.prog w = .ok (.tuple #[.nilIface, .bool false]) w := by
  obtain ⟨D, n, ho, hn, hl, hz⟩ := h
  obtain ⟨v, ps, hrun, hv⟩ := ho.look_ok mkeyed Tryd.underlying45 (zero_iface w) (zd := mz) (zp := []) rfl (key_at s hs)
  rw [Maps.atKey_of_not_has (hz s hx)] at hv
  have e : v = .nilIface := by
    simp only [rdv, mz, Option.some.injEq, Prod.mk.injEq, DataW.held.injEq] at hv
    exact hv.1
  subst e
  rw [hz s hx] at hrun
  exact hrun
theorem map_store {ok : Nat → Prop} {w : World} {b : Nat} {l : List ArgX} (h : MapIs ok w b l) (x : ArgX) (u : Value) (hx : ∀ y ∈ l, y.f0 ≠ x.f0) (hs : x.f0.size ≤ maxLen) (hn : l.length < maxLen) (hu : kG.M w 0 ok x.f1 [u]) :
    ∃ w', (Instr.mapUpdate 45 (.map (some b)) (.string x.f0) u).run Tryd.prog w = .ok () w' ∧ MapIs ok w' b (l ++ [x]) ∧ w.grownBy w' (some b) := by
  obtain ⟨D, n, ho, hle, hl, hz⟩ := h
  obtain ⟨w', hrun, ho2, hg⟩ := ho.update mkeyed Tryd.underlying45 (Nat.lt_of_le_of_lt hle hn) (key_at x.f0 hs) (show rdv u = some (.held u, []) from rfl)
  have hkeep : ∀ y v, kG.M w 0 ok y [v] → kG.M w' 0 ok y [v] := fun y v hM => by
    refine kG.M_mono (fun _ hk => hk.1) (kG.M_move (fun k hk => ?_) (kG.M_bound hM))
    obtain ⟨_, _, hlt, q, _, cells, hc⟩ := hk
    refine hg.block k hlt (fun e => ?_)
    injection e with e
    subst e
    obtain ⟨es, clock, hb, _⟩ := ho
    rw [hc] at hb
    cases hb
  have hM := ho.isMap
  refine ⟨w', hrun, ⟨_, _, ho2, by simp; omega, fun y hy => ?_, fun s hsx => ?_⟩, hg⟩
  · rcases List.mem_append.1 hy with hy | hy
    · obtain ⟨v, h1, h2, h3⟩ := hl y hy
      have hne : keyL y.f0 ≠ keyL x.f0 := fun e => hx y hy (keyL_inj e)
      exact ⟨v, (Maps.atKey_put_other hne _ _).trans h1, (Maps.has_put_other hne _).trans h2, hkeep _ _ h3⟩
    · obtain rfl := List.mem_singleton.1 hy
      exact ⟨u, Maps.atKey_put_same hM (key_lit _ hs) _ _, Maps.has_put_same hM (key_lit _ hs) _, hkeep _ _ hu⟩
  · have hne : keyL s ≠ keyL x.f0 := fun e => hsx x (by simp) (keyL_inj e).symm
    exact (Maps.has_put_other hne _).trans (hz s (fun y hy => hsx y (by simp [hy])))
section
variable {ops : Array Oper} {rest : List Oper} {o : Oper} {a : Act} {Q : Exit → Act → World → Prop}
theorem wp_look_miss {ok : Nat → Prop} (w : World) (hg : o.guard = none) (m x : Operand) (hop : o.op = Op.lookup 45 m x true) (b : Nat) (l : List ArgX) (s : ByteArray) (hm : a.eval m = .map (some b)) (hx : a.eval x = .string s)
    (h : MapIs ok w b l) (hno : ∀ x ∈ l, x.f0 ≠ s) (hs : s.size ≤ maxLen) (hK : wpList Tryd.prog ops Q rest (a.put o.dst (.tuple #[.nilIface, .bool false])) w) : wpList Tryd.prog ops Q (o :: rest) a w := by
  refine wpList_plain hg fun K' hK' => ?_
  have hrun := look_miss h s hno hs
  unfold Oper.wp
  simp [execOp, hop, hm, hx, hrun, Result.andThen]
  exact hK' _ _ hK
theorem wp_store {ok : Nat → Prop} (w : World) (hg : o.guard = none) (m x v : Operand) (hop : o.op = Op.mapUpdate 45 m x v) (b : Nat) (l : List ArgX) (y : ArgX) (u : Value) (hm : a.eval m = .map (some b)) (hx : a.eval x = .string y.f0) (hv : a.eval v = u)
    (h : MapIs ok w b l) (hno : ∀ x ∈ l, x.f0 ≠ y.f0) (hs : y.f0.size ≤ maxLen) (hn : l.length < maxLen) (hu : kG.M w 0 ok y.f1 [u])
    (hK : ∀ w', MapIs ok w' b (l ++ [y]) → w.grownBy w' (some b) → wpList Tryd.prog ops Q rest (a.put o.dst undef) w') : wpList Tryd.prog ops Q (o :: rest) a w := by
  refine wpList_plain hg fun K' hK' => ?_
  obtain ⟨w', hrun, h1, h2⟩ := map_store h y u hno hs hn hu
  unfold Oper.wp
  simp [execOp, hop, hm, hx, hv, hrun, Result.andThen]
  exact hK' _ _ (hK w' h1 h2)
end
end Go.Proofs.YtabaldpjahcilaaDoor.H
/-
  CONTRACTS: sort.Strings of one text; squirrel's getSortedKeys of a map with one name.
-/
namespace Go.Proofs.YtabaldpjahcilaaDoor.H
open Go.RowKit Go.Proofs.YtabaldpjahcilaaDoorW.PrintWords Go.Proofs.YtabaldpjahcilaaDoorW.PrintLast Go.Proofs.YtabaldpjahcilaaDoorW.PrintMore Go.Proofs.YtabaldpjahcilaaDoor.QD
open Go.Maps (Keyed)
set_option linter.unusedVariables false
set_option linter.unusedSimpArgs false

set_option maxRecDepth 100000 in
theorem insertion_one (A : Option Addr) (c : Nat) (w : World) :
    Calls Tryd.prog 75 #[.slice A 1 c, .int .i64 0, .int .i64 1] w fun e w' => e = .returned (.tuple #[]) ∧ Below w.heap.size w w' := by
  go_enter Tryd.func75, Tryd.ntmps75
  go_wp2_with fail
  refine wp_loop_rounds 1 ?_
  rw [rounds_succ]
  go_wp2_with fail
  go_end0
  exact ⟨rfl, Below.refl _ _⟩
set_option maxRecDepth 100000 in
set_option maxHeartbeats 1600000 in
theorem pdq_one (A : Option Addr) (c : Nat) (l : Int) (w : World) :
    Calls Tryd.prog 66 #[.slice A 1 c, .int .i64 0, .int .i64 1, .int .i64 l] w fun e w' => e = .returned (.tuple #[]) ∧ Below w.heap.size w w' := by
  go_enter Tryd.func66, Tryd.ntmps66
  go_wp2_with fail
  refine wp_loop_rounds 1 ?_
  rw [rounds_succ]
  go_wp2_with fail
  refine (insertion_one A c w).mono ?_
  rintro e w1 ⟨rfl, hb⟩
  go_wp2_with fail
  (try simp only [Exit.inBlock, Exit.then])
  refine bodyPost_ret (results_none rfl _ _ _) rfl ?_
  exact ⟨rfl, hb⟩
set_option maxRecDepth 100000 in
set_option maxHeartbeats 1600000 in
theorem sort_one (A : Option Addr) (c : Nat) (w : World) :
    Calls Tryd.prog 45 #[.slice A 1 c] w fun e w' => e = .returned (.tuple #[]) ∧ Below w.heap.size w w' := by
  have hs : Calls Tryd.prog 55 #[.slice A 1 c] w fun e w' => e = .returned (.tuple #[]) ∧ Below w.heap.size w w' := by
    go_enter Tryd.func55, Tryd.ntmps55
    go_wp2_with fail
    refine (Tryd.bits_Len 1 w (by omega) (by omega)).mono ?_
    rintro e w1 ⟨rfl, rfl⟩
    go_wp2_with fail
    refine (pdq_one A c _ _).mono ?_
    rintro e w2 ⟨rfl, hb⟩
    go_wp2_with fail
    go_end0
    exact ⟨rfl, hb⟩
  go_enter Tryd.func45, Tryd.ntmps45
  go_wp2_with fail
  refine hs.mono ?_
  rintro e w1 ⟨rfl, hb⟩
  go_wp2_with fail
  go_end0
  exact ⟨rfl, hb⟩
/-- A row's block is no other object's. -/
theorem own_cells {w : World} {B : Nat} {e : TypeId} {k n : Nat} {v : Value} {xs : List Value} (ho : w.ownsRow B e k v n xs) {j : Nat} {o : Obj} (hb : w.heap[j]? = some o) (hne : ∀ cs t fr, o ≠ .cells cs t fr) : some j ≠ v.ownBlock := by
  rcases ho.2 with ⟨rfl, _⟩ | ⟨g, cap, cur, rfl, _, hg, _⟩
  · simp [Value.ownBlock]
  · intro he
    have : j = g := by simpa [Value.ownBlock] using he
    subst this
    rw [hg] at hb
    injection hb with hb
    exact hne _ _ _ hb.symm
theorem info_str : (Tryd.prog.info? 9).map (fun i => (i.zero, i.size, i.bytes)) = some (some (.string ⟨#[]⟩), 1, 16) := by kernel_rfl
def isStr (s : ByteArray) (cs : List Value) : Prop := cs = [.string s]
theorem one_size {w : World} {b n : Nat} {D : DataW Value} (ho : w.ownsMap Tryd.prog 9 rdv b n D) (hn : n ≤ 1) (s : ByteArray) (h : Maps.has D (keyL s) = true) : Maps.size D = 1 := by
  obtain ⟨es, clock, hb, F, hs, hD⟩ := ho
  have h1 : Maps.size D = es.size := by rw [hD]; simp [Maps.size, length_sorted]
  have h2 : Maps.size D ≠ 0 := by
    intro h0
    have : es.toList = [] := List.eq_nil_of_length_eq_zero (by rw [Array.length_toList, ← h1]; exact h0)
    rw [hD, this] at h
    cases h
  omega
set_option maxRecDepth 100000 in
set_option maxHeartbeats 3200000 in
theorem keys_one {ok : Nat → Prop} (w : World) (b : Nat) (s : ByteArray) (v : S27) (hM : MapIs ok w b [⟨s, v⟩]) :
    Calls Tryd.prog 37 #[.map (some b)] w fun e w' => (∃ A c, e = .returned (.slice A 1 c) ∧ Kd.C Kd.string w' A 1 [s]) ∧ Below w.heap.size w w' := by
  obtain ⟨D, n, ho, hn, hx, hz⟩ := hM.own
  obtain ⟨u, _, hhas, _⟩ := hx ⟨s, v⟩ (by simp)
  have hone := one_size ho (by simpa using hn) s hhas
  have HOWN := Lib.hid ho
  have HZ := Lib.hid hz
  have hbl := ho.lt
  obtain ⟨i0, hi, hz0, hz1, hz2⟩ := info_parts info_str
  clear hx hn hz hM ho
  go_enter Tryd.func37, Tryd.ntmps37
  go_wp2_with (first
    | (at_len; refine wpList_len_own _ rfl _ 45 rfl 9 20 Tryd.underlying45 rdv b n D rfl HOWN.out ?_)
    | (at_make; refine wpList_make_own _ rfl _ _ 34 rfl w.heap.size 9 i0 (.string ⟨#[]⟩) 1 Tryd.underlying34 hi hz0 hz1 .i64 .i64 1 1 rfl (by rw [hone]; rfl) rfl (by rw [hz2]; omega) (by simp only [maxLen]; omega) (Nat.le_refl _) ?_; intro w1 hrow1 hg1)
    | (at_range; refine wpList_range_own _ rfl _ 45 rfl 9 20 mkeyed Tryd.underlying45 rdv b n D rfl (HOWN.out.kept hg1 (by simp)) ?_; intro w0 hrg0 hg0 hs0))
  have HROW : Hid (OwnRow isStr 9 1 w1 w.heap.size (.slice (some ⟨w.heap.size, 0, none⟩) 0 1) []) := Lib.hid ⟨[], hrow1, Reps.none _ _⟩
  have HROW0 := Lib.hid (HROW.out.other hg0 (Or.inr (by simp [Value.ownBlock])))
  have HB0 := Lib.hid (((Below.refl w.heap.size w).grown hg1 (Nat.le_refl _) (fun j hj => by cases hj)).grown hg0 hg1.size (fun j hj => by cases hj))
  have HRG0 := Lib.hid hrg0
  have HW1 : Hid (w.heap.size ≤ w1.heap.size) := Lib.hid hg1.size
  clear hrow1 hg1 hrg0 hg0 hs0 HROW
  go_loopw [3] (fun v wr => ∃ (left : Lit → Bool) (cnt : Nat) (ss : List ByteArray), Hid (wr.ranges Tryd.prog 9 rdv b w1.heap.size n D left cnt) ∧ Hid (OwnRow isStr 9 1 wr w.heap.size v ss) ∧ Hid ((cnt = 1 ∧ ss = [] ∧ left = Maps.has D) ∨ (cnt = 0 ∧ ss = [s])) ∧ Hid (Below w.heap.size w wr))
    (fun _ wr => wr.rangeLeft b w1.heap.size)
  case atStart => exact ⟨_, _, [], HRG0, HROW0, Lib.hid (.inl ⟨hone, rfl, rfl⟩), HB0⟩
  case round =>
    clear HROW0 HB0 HRG0
    obtain ⟨left, cnt, ss, HRG, HROW, HS, HB⟩ := hrel
    go_wp2_with (first
      | (at_next; refine wpList_next_ranges _ rfl _ rfl 9 mkeyed rdv encStr id (fun key kl hk => by obtain ⟨x, hx, _⟩ := Maps.keyOf_str Tryd.underlying9 hk; exact ⟨x, hx⟩) (fun v y hv => ⟨v, rfl⟩) b w1.heap.size n _ _ _ rfl HRG.out ?_ ?_))
    · intro hc0 hl0
      have hss : ss = [s] := by
        rcases HS.out with ⟨h1, _⟩ | ⟨_, h2⟩
        · omega
        · exact h2
      subst hss
      obtain ⟨A, c, e, hl, hr⟩ := OwnRow.reads HROW.out
      subst e
      have HR : Hid (Kd.C Kd.string wr A 1 [s]) := Lib.hid hr
      clear HS HROW HRG hl0 hr hl
      go_wp2_with fail
      refine (sort_one A c wr).mono ?_
      rintro e w5 ⟨rfl, hb⟩
      go_wp2_with fail
      go_ret
      exact ⟨⟨A, c, rfl, Kd.C_below HR.out hb⟩, HB.out.trans (hb.mono HB.out.size)⟩
    · intro x c kl yd yp w2 cnt2 hkey hlk hv hat hrg2 hlt hg2 hs2 hen
      obtain ⟨x', ex, rfl, _⟩ := Maps.keyOf_str Tryd.underlying9 hkey
      obtain rfl : x = x' := encStr_inj ex
      obtain ⟨rfl, rfl, rfl⟩ : cnt = 1 ∧ ss = [] ∧ left = Maps.has D := by
        rcases HS.out with h1 | ⟨h1, _⟩
        · exact h1
        · omega
      have hxs : encStr x = .string s := by
        by_cases hq : s = ⟨x.toArray⟩
        · rw [hq]
        · have h1 := HZ.out ⟨x.toArray⟩ (fun y hy => by
            obtain rfl := List.mem_singleton.1 hy
            exact hq)
          have h2 : keyL ⟨x.toArray⟩ = .string x := by unfold keyL; simp
          rw [h2, hlk] at h1
          cases h1
      have hc2 : cnt2 = 0 := by omega
      subst hc2
      rw [hxs] at hen
      have HRG2 := Lib.hid hrg2
      have HG2 := Lib.hid hg2
      have HROW2 := Lib.hid (HROW.out.other HG2.out (Or.inr (fun h => by
        obtain ⟨inner, hown, _⟩ := HROW.out
        obtain ⟨es, clock, since, seen, c0, _, _, _, _, hr, _⟩ := HRG.out
        exact own_cells hown hr (fun _ _ _ h => by cases h) h.symm)))
      have HB2 := Lib.hid (HB.out.grown HG2.out HB.out.size (fun j hj => by cases hj; exact HW1.out))
      have HNB : Hid (some b ≠ u3.ownBlock ∧ some w1.heap.size ≠ u3.ownBlock) := by
        obtain ⟨inner, hown, _⟩ := HROW2.out
        obtain ⟨es, clock, since, seen, c0, h1, _, _, _, h2, _⟩ := HRG2.out
        exact Lib.hid ⟨own_cells hown h1 (fun _ _ _ h => by cases h), own_cells hown h2 (fun _ _ _ h => by cases h)⟩
      clear hs2 hg2 hrg2 hat hv hkey hlk
      go_wp2_with (first | ((with_reducible refine gate_builtin (b := .append) (xs := #[.tmp 14, .tmp 16]) rfl ?_); at_builtin; refine OwnRow.append (R := isStr) (w0 := w) w.heap.size rfl (.tmp 14) (.tmp 16) 34 9 (.string ⟨#[]⟩) 1 16 rfl Tryd.underlying34 info_str rfl (by decide) (by decide) u3 [] s [_] rfl rfl rfl rfl (fun u hu => by rw [List.mem_singleton.1 hu]; rfl) HROW2.out HB2.out HB2.out.size (by simp) ?_))
      intro v1 w3 hO1 hB1 hg3 _
      have HRG3 := Lib.hid (HRG2.out.kept hg3 HNB.out.1 HNB.out.2)
      have HO3 := Lib.hid hO1
      have HB3 := Lib.hid hB1
      clear hO1 hB1 hg3
      go_wp2_with fail
      go_roundw
      case rel => exact ⟨_, 0, [s], HRG3, HO3, Lib.hid (.inr ⟨rfl, rfl⟩), HB3⟩
      case measure => rw [HRG3.out.left_eq, HRG.out.left_eq]; omega
end Go.Proofs.YtabaldpjahcilaaDoor.H
/-
  A CONTRACT: squirrel's Placeholders writes so many question marks with commas between (for numbers up to 2^20; nothing below 1), by the shelf's contract of strings.Repeat.
-/
namespace Go.Proofs.YtabaldpjahcilaaDoor.H
open Go.RowKit Go.Proofs.YtabaldpjahcilaaDoorW.PrintWords
set_option linter.unusedVariables false
set_option linter.unusedSimpArgs false

/-- n question marks with commas between. -/
def qm : Nat → List UInt8
  | 0 => []
  | n + 1 => qm n ++ ((if n = 0 then [] else [44]) ++ [63])
theorem qm_repeat : ∀ n, 1 ≤ n → Lib.repeatL [44, 63] n = 44 :: qm n := by
  have key : ∀ n, Lib.repeatL [44, 63] (n + 1) = 44 :: qm (n + 1) := by
    intro n
    induction n with
    | zero => rfl
    | succ n ih =>
      have h1 : Lib.repeatL [44, 63] (n + 1 + 1) = Lib.repeatL [44, 63] (n + 1) ++ Lib.repeatL [44, 63] 1 := Lib.repeatL_add _ (n + 1) 1
      rw [h1, ih, Lib.repeatL_one]
      show 44 :: (qm (n + 1) ++ [44, 63]) = 44 :: (qm (n + 1) ++ ((if n + 1 = 0 then [] else [44]) ++ [63]))
      rw [if_neg (by omega)]
      rfl
  intro n h
  obtain ⟨m, rfl⟩ : ∃ m, n = m + 1 := ⟨n - 1, by omega⟩
  exact key m
def squirrel_Placeholders.f (a0 : Int) : Option ByteArray := if a0 < 1 then some ⟨#[]⟩ else if a0 ≤ 1048576 then some ⟨(qm a0.toNat).toArray⟩ else none
theorem ret_str {a b : ByteArray} (h : a = b) : Ending.returned (.string a) = .returned (.string b) := by rw [h]

set_option maxHeartbeats 1600000 in
set_option maxRecDepth 100000 in
theorem squirrel_Placeholders.calls (a0 : Int) (r : ByteArray) (w : World) (h : squirrel_Placeholders.f a0 = some r) :
    Calls Tryd.prog 39 #[.int .i64 a0] w fun e w' => e = .returned (.string r) ∧ Below w.heap.size w w' := by
  unfold squirrel_Placeholders.f at h
  by_cases h1 : a0 < 1
  · rw [if_pos h1] at h
    injection h with h
    subst h
    go_enter Tryd.func39, Tryd.ntmps39
    go_wp2_with fail
    go_ret
    exact ⟨rfl, Below.refl _ _⟩
  · rw [if_neg h1] at h
    by_cases h2 : a0 ≤ 1048576
    · rw [if_pos h2] at h
      have HR := Lib.hid (Option.some.inj h)
      clear h
      obtain ⟨n, rfl⟩ := Int.eq_ofNat_of_zero_le (show 0 ≤ a0 by omega)
      have d1 : decide ((n : Int) < 1) = false := decide_eq_false h1
      go_enter Tryd.func39, Tryd.ntmps39
      go_wp2_with fail
      refine (Tryd.strings_Repeat ⟨#[44, 63]⟩ n _ (by omega) (by show 2 * n ≤ _; omega)).mono ?_
      rintro e w1 ⟨rfl, hb⟩
      have hq := qm_repeat n (by omega)
      have hl : (⟨#[44, 63]⟩ : ByteArray).data.toList = [44, 63] := rfl
      rw [hl, hq]
      clear hq hl
      go_wp2_with fail
      go_ret
      refine ⟨ret_str ?_, hb⟩
      have hx : (⟨(44 :: qm n).toArray⟩ : ByteArray).extract 1 (44 :: qm n).length = ⟨(qm n).toArray⟩ := by
        apply ByteArray.ext
        simp
      rw [← HR.out, Int.toNat_natCast]
      exact hx
    · rw [if_neg h2] at h
      cases h
end Go.Proofs.YtabaldpjahcilaaDoor.H
/-
  Right values, as a truth value.
-/
namespace Go.Proofs.YtabaldpjahcilaaDoor.H
open Go.RowKit Go.Proofs.YtabaldpjahcilaaDoorW.PrintWords Go.Proofs.YtabaldpjahcilaaDoorW.PrintLast Go.Proofs.YtabaldpjahcilaaDoorW.PrintMore Go.Proofs.YtabaldpjahcilaaDoor.QD
set_option linter.unusedVariables false
set_option linter.unusedSimpArgs false

def atomB (x : S27) : Bool := decide (0 ≤ x.f0) && (decide (x.f0 ≤ 4) && (x.f3.isEmpty && ((decide (x.f1 = 0) || decide (x.f0 = 1)) && (decide (x.f2 = ⟨#[]⟩) || decide (x.f0 = 2)))))
theorem atomB_iff (x : S27) : atomB x = true ↔ atomR x := by
  unfold atomB atomR
  simp only [Bool.and_eq_true, Bool.or_eq_true, decide_eq_true_eq, List.isEmpty_iff]
def rightB (x : S27) : Bool := atomB x || (decide (x.f0 = 5) && (decide (x.f1 = 0) && (decide (x.f2 = ⟨#[]⟩) && x.f3.all atomB)))
theorem rightB_iff (x : S27) : rightB x = true ↔ rightR x := by
  unfold rightB rightR
  simp only [Bool.and_eq_true, Bool.or_eq_true, decide_eq_true_eq, List.all_eq_true, atomB_iff]
end Go.Proofs.YtabaldpjahcilaaDoor.H
/-
  A CONTRACT: impl's tableOf of one name and one right value: a map of that name alone.
-/
namespace Go.Proofs.YtabaldpjahcilaaDoor.H
open Go.RowKit Go.Proofs.YtabaldpjahcilaaDoorW.PrintWords Go.Proofs.YtabaldpjahcilaaDoorW.PrintLast Go.Proofs.YtabaldpjahcilaaDoorW.PrintMore Go.Proofs.YtabaldpjahcilaaDoor.QD
set_option linter.unusedVariables false
set_option linter.unusedSimpArgs false

theorem row_one {w : World} {base : Nat} {ok : Nat → Prop} {v : Value} {x : S27} (h : kG.R 20 w base ok v [x]) : ∃ ad c u, v = .slice (some ad) 1 c ∧ 1 ≤ c ∧ kG.M w base ok x [u] ∧ w.cell? ad = some u := by
  obtain ⟨A, c, rfl, hl, hr⟩ := OwnRow.reads h.2
  obtain ⟨ad, rfl, hc⟩ := hr.2.2 (by simp)
  obtain ⟨cs, hcl, hM, hcell⟩ := hc 0 x rfl
  obtain ⟨u, rfl⟩ : ∃ u, cs = [u] := List.length_eq_one_iff.1 hcl
  exact ⟨ad, c, u, rfl, hl, kG.M_mono (fun k hk => hk.1) hM, by simpa [Addr.add] using hcell 0 u rfl⟩
def TabPost (s : ByteArray) (v : S27) (w : World) (e : Ending) (w' : World) : Prop := ∃ b, e = .returned (.tuple #[.map (some b), .bool true]) ∧ MapIs (fun k => w.heap.size ≤ k) w' b [⟨s, v⟩] ∧ Below w.heap.size w w'
set_option maxHeartbeats 3200000 in
set_option maxRecDepth 100000 in
theorem table_one (s : ByteArray) (v : S27) (hv : rightR v) (hl : v.f3.length ≤ 1048576) (hs : s.size ≤ maxLen) (A0 A1 : Option Addr) (c0 c1 : Nat) (w : World) (hC0 : Kd.C Kd.string w A0 1 [s]) (hC1 : k27.C w A1 1 [v]) :
    Calls Tryd.prog 20 #[.slice A0 1 c0, .slice A1 1 c1] w (TabPost s v w) := by
  have HG := Lib.hid (goList_right [v] (fun x hx => by rw [List.mem_singleton.1 hx]; exact ⟨hv, hl⟩) (by simp) A1 c1 w hC1)
  have HS := Lib.hid hs
  have HC0 := Lib.hid hC0
  clear hv hl hs hC1 hC0
  have hmm := @run_makeMap Tryd.prog
  go_enter Tryd.func20, Tryd.ntmps20
  go_wp2_with fail
  refine HG.out.mono ?_
  rintro e w1 ⟨v1, rfl, hR, hB⟩
  obtain ⟨ad, c, u, rfl, hc1, hM, hcell⟩ := row_one hR
  have HM := Lib.hid (kG.M_bound hM)
  have HB1 := Lib.hid hB
  have HCELL := Lib.hid hcell
  have HUC := Lib.hid (Kd.C_below HC0.out hB)
  have hcA : ∃ a0, A0 = some a0 ∧ w1.cell? a0 = some (.string s) := by
    obtain ⟨a0, h1, h2⟩ := (Kd.C_below HC0.out hB).2.2 (by omega)
    obtain ⟨cs, _, hK, hc⟩ := h2 0 s rfl
    have hK' : cs = [.string s] := hK
    subst hK'
    exact ⟨a0, h1, by simpa [Addr.add] using hc 0 _ rfl⟩
  obtain ⟨a0, rfl, hcell0⟩ := hcA
  have HM0 := Lib.hid (MapIs.made (fun k => w.heap.size ≤ k) w1)
  have HB2 := Lib.hid (below_alloc hB (.map #[] 0))
  have HM2 : Hid (kG.M (w1.alloc (.map #[] 0)) 0 (fun k => w.heap.size ≤ k) v [u]) := Lib.hid (kG.M_lower (Nat.zero_le _) (kG.M_mono (ok' := fun k => w.heap.size ≤ k) (fun k hk => hk.2.1) (Kd.M_step HM.out (fun k _ hk => (MapKept.heap_alloc w1 _).2 k hk))))
  have HUIF := Lib.hid (kG_if _ _ _ (kG.K_of_M HM.out))
  have hcell0' : (w1.alloc (.map #[] 0)).cell? a0 = some (.string s) := Lib.cell?_alloc_some _ hcell0
  have hcell1' : (w1.alloc (.map #[] 0)).cell? ad = some u := Lib.cell?_alloc_some _ hcell
  clear hR hM hB hcell HG HC0 HUC hcell0 HCELL
  go_wp2_with fail
  refine wp_loop_rounds 2 ?_
  rw [rounds_succ]
  rcases HUIF.out with rfl | ⟨t, y, rfl⟩
  all_goals
    go_wp2_with (first | (at_lookup; refine wp_look_miss _ rfl (.tmp 36) (.tmp 37) rfl w1.heap.size [] s rfl rfl HM0.out (fun x hx => by cases hx) HS.out ?_) | (at_mapUpdate; refine wp_store _ rfl (.tmp 42) (.tmp 43) (.tmp 47) rfl w1.heap.size [] ⟨s, v⟩ _ rfl rfl rfl HM0.out (fun x hx => by cases hx) HS.out (by simp [maxLen]) HM2.out ?_))
    intro w3 hM3 hg3
    have HM3 := Lib.hid hM3
    have HB3 := Lib.hid (HB2.out.grown hg3 HB2.out.size (fun k hk => by injection hk with hk; have := HB1.out.size; omega))
    clear hM3 hg3
    go_wp2_with fail
    rw [rounds_succ]
    go_wp2_with fail
    go_ret2
    exact ⟨_, rfl, HM3.out, HB3.out⟩
end Go.Proofs.YtabaldpjahcilaaDoor.H

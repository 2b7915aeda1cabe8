/-
  CONTRACTS: impl's goOf and goList: values that are right, as Go has them.
-/
import Derived.Test.YtabaldpjahcilaaDoorHKinds
import Derived.Outline
namespace Go.Proofs.YtabaldpjahcilaaDoor.H
open Go.RowKit Go.Proofs.YtabaldpjahcilaaDoorW.PrintWords Go.Proofs.YtabaldpjahcilaaDoorW.PrintLast Go.Proofs.YtabaldpjahcilaaDoorW.PrintMore Go.Proofs.YtabaldpjahcilaaDoor.QD
set_option linter.unusedVariables false
set_option linter.unusedSimpArgs false

def AtomPost (x : S27) (w : World) (e : Ending) (w' : World) : Prop := e = .returned (.tuple #[encG x, .bool true]) ∧ Below w.heap.size w w'
theorem ret_tup {a b : Value} (h : a = b) : Ending.returned (.tuple #[a, .bool true]) = .returned (.tuple #[b, .bool true]) := by rw [h]
theorem one_below (w : World) (o : Obj) : Below w.heap.size w (w.alloc o) := below_alloc (Below.refl _ _) o

set_option maxHeartbeats 1600000 in
set_option maxRecDepth 100000 in
theorem goOf_atom (x : S27) (hx : atomR x) (A : Option Addr) (c : Nat) (d : Int) (w : World) :
    Calls Tryd.prog 24 #[.agg #[.int .i64 x.f0, .int .i64 x.f1, .string x.f2, .slice A x.f3.length c], .int .i64 d] w (AtomPost x w) := by
  obtain ⟨h0, h4, _⟩ := hx
  have hu := Tryd.underlying27
  have e : ∀ n : Int, x.f0 = n → encG x = (if n = 1 then .iface 2 (.int .i64 x.f1) else if n = 2 then .iface 9 (.string x.f2) else if n = 3 then .iface 4 (.bool true) else if n = 4 then .iface 4 (.bool false) else .nilIface) := fun n h => by unfold encG; rw [h]
  have e0 := Lib.hid e
  clear e
  generalize hk : x.f0 = k at h0 h4
  have : k = 0 ∨ k = 1 ∨ k = 2 ∨ k = 3 ∨ k = 4 := by omega
  rcases this with rfl | rfl | rfl | rfl | rfl
  all_goals
    have HE := Lib.hid (e0.out _ hk)
    clear hk e0 h0 h4
    go_enter Tryd.func24, Tryd.ntmps24
    go_wp2_with fail
    go_ret2
    exact ⟨ret_tup (by rw [HE.out]; simp), one_below _ _⟩

def ListPost (d : Kd S27) (l : List S27) (w : World) (e : Ending) (w' : World) : Prop := ∃ v : Value, e = .returned (.tuple #[v, .bool true]) ∧ d.R 20 w' w.heap.size (fun _ => True) v l ∧ Below w.heap.size w w'
/-- What goOf hands back of a right value. -/
def GoOfPost (x : S27) (w : World) (e : Ending) (w' : World) : Prop := ∃ u : Value, e = .returned (.tuple #[u, .bool true]) ∧ kG.M w' w.heap.size (fun _ => True) x [u] ∧ Below w.heap.size w w'

/-- What goOf owes of an element, that goList may append it. -/
def Gives (d : Kd S27) (dp : Int) (x : S27) : Prop := ∀ (A : Option Addr) (c : Nat) (w : World), k27.C w A x.f3.length x.f3 → x.f3.length ≤ c →
  Calls Tryd.prog 24 #[.agg #[.int .i64 x.f0, .int .i64 x.f1, .string x.f2, .slice A x.f3.length c], .int .i64 dp] w fun e w' => ∃ u : Value, e = .returned (.tuple #[u, .bool true]) ∧ d.M w' w.heap.size (fun _ => True) x [u] ∧ Below w.heap.size w w'

set_option maxHeartbeats 3200000 in
set_option maxRecDepth 100000 in
theorem goList_of (d : Kd S27) (hsz : d.sz = 1) (hif : ∀ w x u, d.K w x [u] → u = .nilIface ∨ ∃ t v, u = .iface t v) (l : List S27) (dp : Int) (h : ∀ x ∈ l, Gives d dp x) (hl : l.length ≤ 1048576) (A : Option Addr) (c : Nat) (w : World) (hC : k27.C w A l.length l) :
    Calls Tryd.prog 15 #[.slice A l.length c, .int .i64 dp] w (ListPost d l w) := by
  have H := Lib.hid h
  have HC := Lib.hid hC
  have HZ := Lib.hid hsz
  have HIF := Lib.hid hif
  clear h hC hsz hif
  have hu := Tryd.underlying27
  go_enter Tryd.func15, Tryd.ntmps15
  go_wp2_with fail
  go_loopg [6, 14] l.length (fun g v6 v14 w' => ∃ (i : Int), v14 = .int .i64 i ∧ Hid (0 ≤ i ∧ i + g = l.length) ∧ Hid (d.R 20 w' w.heap.size (fun _ => True) v6 (l.take i.toNat)) ∧ Below w.heap.size w w')
  case atStart => exact ⟨0, rfl, Lib.hid ⟨by omega, by omega⟩, Lib.hid ⟨fun _ _ => trivial, OwnRow.lit (inner := []) w _ (Reps.none _ _) (Nat.le_refl _) (by simp)⟩, one_below _ _⟩
  case round =>
    obtain ⟨i, rfl, HI, HO, HB⟩ := hrel
    have hi := HI.out
    cases gk with
    | zero =>
      have hge : ¬ i < (l.length : Int) := by omega
      have hall : l.take i.toNat = l := List.take_of_length_le (by omega)
      have HO2 := HO.out
      rw [hall] at HO2
      have HF := Lib.hid HO2
      clear hi hall HO2
      go_wp2_with fail
      go_ret2
      exact ⟨_, rfl, HF.out, HB⟩
    | succ g =>
      have hlt : i < (l.length : Int) := by omega
      have h0 : 0 ≤ i := hi.1
      obtain ⟨ad, B3, b3, rfl, q0, q1, q2, q3, ql, qC⟩ := at_T27 (Kd.C_below HC.out HB) i h0 hlt
      have HX := Lib.hid (atom_at l (Gives d dp) H.out i h0 hlt)
      have HT := Lib.hid (take_next l i h0 hlt)
      have HQ := Lib.hid qC
      have HQL := Lib.hid ql
      clear qC ql hi
      generalize rd_T27 l i = x at q0 q1 q2 q3 HX HQ HQL HT
      go_wp2_with fail
      refine (HX.out B3 b3 _ (Kd.C_below HQ.out (one_below _ _)) HQL.out).mono ?_
      rintro e w2 ⟨u, rfl, hM, hb⟩
      have HU := HIF.out _ _ _ (d.K_of_M hM)
      have HB2 : Below w.heap.size w w2 := (below_alloc HB _).trans (hb.mono (below_alloc HB _).size)
      have HO2 := Lib.hid (Kd.R_below (Kd.R_alloc HO.out _) hb)
      have HM2 := Lib.hid (d.M_lower (base' := w.heap.size) (below_alloc HB _).size (d.M_bound hM))
      have hlt2 := Kd.R_lt (Kd.R_alloc HO.out (.cells #[.int .i64 x.f0, .int .i64 x.f1, .string x.f2, .slice B3 x.f3.length b3] 27))
      have HLT := Lib.hid hlt2
      have hbase := HB2.size
      have hzz : (Tryd.prog.info? 20).map (fun i => (i.zero, i.size, i.bytes)) = some (some .nilIface, d.sz, 16) := by rw [HZ.out]; exact info_iface
      have HINF := Lib.hid hzz
      have hz1 : (Value.nilIface).cells.size = d.sz := by rw [HZ.out]; rfl
      have HZ1 := Lib.hid hz1
      have hz0 : 0 < d.sz := by rw [HZ.out]; omega
      clear hM hb hlt2 hzz hz1
      rcases HU with rfl | ⟨t, v, rfl⟩
      all_goals
        go_wp2_with (first | ((with_reducible refine gate_builtin (b := .append) (xs := #[.tmp 26, .tmp 28]) rfl ?_); at_builtin; refine Kd.R_append d (w0 := w) w.heap.size rfl (.tmp 26) (.tmp 28) 36 20 .nilIface 16 rfl Tryd.underlying36 HINF.out HZ1.out hz0 (by omega) u6 (l.take i.toNat) x _ (fun _ => True) _ rfl rfl HM2.out (fun k hk => ⟨trivial, fun he => absurd (HLT.out k he.symm) (Nat.not_lt.mpr hk.2.1)⟩) (fun _ _ => trivial) HO2.out HB2 hbase (by rw [List.length_take]; omega) ?_))
        intro v1 w1 hO1 hB1 _ _
        have HO3 := Lib.hid (by rw [← HT.out] at hO1; exact hO1)
        clear hO1
        go_wp2_with fail
        go_roundg g
        case measure => omega
        case rel => exact ⟨i + 1, rfl, Lib.hid (by have := HI.out; omega), HO3, hB1⟩

theorem encG_if (x : S27) : encG x = .nilIface ∨ ∃ t v, encG x = .iface t v := by
  unfold encG
  split
  · exact .inr ⟨_, _, rfl⟩
  · split
    · exact .inr ⟨_, _, rfl⟩
    · split
      · exact .inr ⟨_, _, rfl⟩
      · split
        · exact .inr ⟨_, _, rfl⟩
        · exact .inl rfl
theorem kGA_if : ∀ w x u, kGA.K w x [u] → u = .nilIface ∨ ∃ t v, u = .iface t v := fun w x u h => by
  have h' : [u] = [encG x] := h
  injection h' with h'
  rw [h']
  exact encG_if x
theorem kG_if : ∀ w x u, kG.K w x [u] → u = .nilIface ∨ ∃ t v, u = .iface t v := fun w x u h => by
  have h' : (if x.f0 = 5 then ∃ A c, [u] = [.iface 36 (.slice A x.f3.length c)] ∧ x.f3.length ≤ c ∧ kGA.C w A x.f3.length x.f3 else [u] = [encG x]) := h
  split at h'
  · obtain ⟨A, c, h', _⟩ := h'
    injection h' with h'
    exact .inr ⟨_, _, h'⟩
  · injection h' with h'
    rw [h']
    exact encG_if x
theorem atom_gives (x : S27) (hx : atomR x) (dp : Int) : Gives kGA dp x := fun A c w _ _ =>
  (goOf_atom x hx A c dp w).mono fun e w' ⟨he, hb⟩ => ⟨encG x, he, rfl, hb⟩
theorem goList_atoms (l : List S27) (h : ∀ x ∈ l, atomR x) (dp : Int) (hl : l.length ≤ 1048576) (A : Option Addr) (c : Nat) (w : World) (hC : k27.C w A l.length l) :
    Calls Tryd.prog 15 #[.slice A l.length c, .int .i64 dp] w (ListPost kGA l w) :=
  goList_of kGA rfl kGA_if l dp (fun x hx => atom_gives x (h x hx) dp) hl A c w hC

set_option maxHeartbeats 1600000 in
set_option maxRecDepth 100000 in
theorem goOf_list (x : S27) (hx : x.f0 = 5) (ha : ∀ y ∈ x.f3, atomR y) (hl : x.f3.length ≤ 1048576) : Gives kG 0 x := by
  intro A c w hC hc
  have HC := Lib.hid hC
  have HA := Lib.hid ha
  have HL := Lib.hid hl
  have hu := Tryd.underlying27
  have HX := Lib.hid hx
  rw [hx]
  clear hC ha hl hx
  go_enter Tryd.func24, Tryd.ntmps24
  go_wp2_with fail
  refine (goList_atoms x.f3 HA.out 1 HL.out A c _ (Kd.C_below HC.out (one_below _ _))).mono ?_
  rintro e w1 ⟨v, rfl, hR, hb⟩
  have HR := Lib.hid hR
  have HB := Lib.hid hb
  clear hR hb
  go_wp2_with fail
  go_ret2
  refine ⟨_, rfl, ?_, (one_below _ _).trans (HB.out.mono (by simp))⟩
  show (if x.f0 = 5 then _ else _)
  rw [if_pos HX.out]
  exact ⟨v, rfl, Kd.R_lower HR.out (by simp)⟩
theorem right_gives (x : S27) (hx : rightR x) (hl : x.f3.length ≤ 1048576) : Gives kG 0 x := by
  rcases hx with h | ⟨h5, _, _, ha⟩
  · intro A c w _ _
    refine (goOf_atom x h A c 0 w).mono fun e w' ⟨he, hb⟩ => ⟨encG x, he, ?_, hb⟩
    show (if x.f0 = 5 then _ else _)
    rw [if_neg (by have := h.2.1; omega)]
  · exact goOf_list x h5 ha hl
/-- goList of right values. -/
theorem goList_right (l : List S27) (h : ∀ x ∈ l, rightR x ∧ x.f3.length ≤ 1048576) (hl : l.length ≤ 1048576) (A : Option Addr) (c : Nat) (w : World) (hC : k27.C w A l.length l) :
    Calls Tryd.prog 15 #[.slice A l.length c, .int .i64 0] w (ListPost kG l w) :=
  goList_of kG rfl kG_if l 0 (fun x hx => right_gives x (h x hx).1 (h x hx).2) hl A c w hC
end Go.Proofs.YtabaldpjahcilaaDoor.H

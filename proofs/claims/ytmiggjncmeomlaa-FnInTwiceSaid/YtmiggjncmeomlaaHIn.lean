/-
  CONTRACTS: sqlx's In over right values.
-/
import Derived.Test.YtmiggjncmeomlaaHArow
import Derived.Test.YtmiggjncmeomlaaHIndex
import Derived.Test.YtmiggjncmeomlaaHBld
namespace Go.Proofs.Ytmiggjncmeomlaa.H
open Go.RowKit Go.Proofs.YtmiggjncmeomlaaW.PrintWords Go.Proofs.YtmiggjncmeomlaaW.PrintLast Go.Proofs.YtmiggjncmeomlaaW.PrintMore Go.Proofs.Ytmiggjncmeomlaa.QS
set_option linter.unusedVariables false
set_option linter.unusedSimpArgs false

/-- What asSliceForIn says of an element. -/
def AsPost (x : S24) (w0 : World) (w : World) (e : Ending) (w' : World) : Prop := Below w.heap.size w w' ∧
  ((x.f0 = 5 ∧ ∃ A c, e = .returned (.tuple #[.slice A x.f3.length c, .bool true]) ∧ x.f3.length ≤ c ∧ kGA.C w0 A x.f3.length x.f3) ∨ (x.f0 ≠ 5 ∧ e = .returned (.tuple #[.slice none 0 0, .bool false])))
set_option maxHeartbeats 1600000 in
set_option maxRecDepth 100000 in
theorem asSlice_is (x : S24) (hx : rightR x) (u : Value) (w0 w : World) (hu : kG.K w0 x [u]) :
    Calls Try.prog 23 #[u] w (AsPost x w0 w) := by
  have hK : (if x.f0 = 5 then ∃ A c, [u] = [.iface 39 (.slice A x.f3.length c)] ∧ x.f3.length ≤ c ∧ kGA.C w0 A x.f3.length x.f3 else [u] = [encG x]) := hu
  by_cases h5 : x.f0 = 5
  · rw [if_pos h5] at hK
    obtain ⟨A, c, e, hl, hC⟩ := hK
    injection e with e
    subst e
    have HP : Hid (AsPost x w0 w (.returned (.tuple #[.slice A x.f3.length c, .bool true])) w) := Lib.hid ⟨Below.refl _ _, .inl ⟨h5, A, c, rfl, hl, hC⟩⟩
    have t1 := ta_list_yes (.slice A x.f3.length c)
    clear hu hC hl h5
    go_enter Try.func23, Try.ntmps23
    go_wp2_with fail
    go_ret2
    exact HP.out
  · rw [if_neg h5] at hK
    injection hK with e
    subst e
    have HP : Hid (AsPost x w0 w (.returned (.tuple #[.slice none 0 0, .bool false])) w) := Lib.hid ⟨Below.refl _ _, .inr ⟨h5, rfl⟩⟩
    have hat : atomR x := by
      rcases hx with h | ⟨h, _⟩
      · exact h
      · exact absurd h h5
    have hcase : x.f0 = 0 ∨ x.f0 = 1 ∨ x.f0 = 2 ∨ x.f0 = 3 ∨ x.f0 = 4 := by
      have := hat.1
      have := hat.2.1
      omega
    have e : ∀ n : Int, x.f0 = n → encG x = (if n = 1 then .iface 2 (.int .i64 x.f1) else if n = 2 then .iface 9 (.string x.f2) else if n = 3 then .iface 4 (.bool true) else if n = 4 then .iface 4 (.bool false) else .nilIface) := fun n h => by unfold encG; rw [h]
    have key : encG x = .nilIface ∨ encG x = .iface 2 (.int .i64 x.f1) ∨ encG x = .iface 9 (.string x.f2) ∨ encG x = .iface 4 (.bool true) ∨ encG x = .iface 4 (.bool false) := by
      rcases hcase with h | h | h | h | h
      · exact .inl (e _ h)
      · exact .inr (.inl (e _ h))
      · exact .inr (.inr (.inl (e _ h)))
      · exact .inr (.inr (.inr (.inl (e _ h))))
      · exact .inr (.inr (.inr (.inr (e _ h))))
    clear hu e hcase hat hx h5
    rcases key with k | k | k | k | k
    all_goals
      rw [k]
      clear k
    · have t1 : ∀ W, (Instr.typeAssert .nilIface 20 39 true).run Try.prog W = .ok (.tuple #[.slice none 0 0, .bool false]) W := by
        obtain ⟨i, hi, hz⟩ := Option.map_eq_some_iff.1 (show (Try.prog.info? 39).map (·.zero) = some (some (.slice none 0 0)) by kernel_rfl)
        intro W
        unfold Instr.typeAssert
        simp [Sem.run_bind, run_underlying Try.underlying39, Result.andThen, Sem.run_pure, zeroValue, typeInfo, hi, hz]
      go_enter Try.func23, Try.ntmps23
      go_wp2_with fail
      go_ret2
      exact HP.out
    · have t1 := ta_list_no 2 (.int .i64 x.f1) (by decide)
      go_enter Try.func23, Try.ntmps23
      go_wp2_with fail
      go_ret2
      exact HP.out
    · have t1 := ta_list_no 9 (.string x.f2) (by decide)
      go_enter Try.func23, Try.ntmps23
      go_wp2_with fail
      go_ret2
      exact HP.out
    · have t1 := ta_list_no 4 (.bool true) (by decide)
      go_enter Try.func23, Try.ntmps23
      go_wp2_with fail
      go_ret2
      exact HP.out
    · have t1 := ta_list_no 4 (.bool false) (by decide)
      go_enter Try.func23, Try.ntmps23
      go_wp2_with fail
      go_ret2
      exact HP.out
section
variable {ops : Array Oper} {rest : List Oper} {o : Oper} {a : Act} {Q : Exit → Act → World → Prop}
/-- A row that is read, behind one of the call's own. -/
theorem arow_reads {w0 wb W : World} {B : Nat} (hgd : o.guard = none) (s x : Operand) (ho : o.op = .call { callee := .builtin .append, args := #[s, x], argTypes := #[39, 39] })
    (v : Value) (ad : Addr) (c : Nat) (vs us : List S24) (hs : a.eval s = v) (hx : a.eval x = .slice (some ad) us.length c) (HO : ARow w0 B vs v W) (HE : ReadsRow (kG.K w0) 1 W (some ad) us.length us) (HB : Below B wb W) (hbase : B ≤ W.heap.size) (hl : vs.length + us.length ≤ 1099511627776)
    (h : ∀ v1 w1, ARow w0 B (vs ++ us) v1 w1 → Below B wb w1 → W.grownBy w1 v.ownBlock → wpList Try.prog ops Q rest (a.put o.dst v1) w1) : wpList Try.prog ops Q (o :: rest) a W := by
  obtain ⟨i0, hi, hz0, hz1, hz2⟩ := info_parts info_iface
  obtain ⟨ys, hr, hcell⟩ := HE.inner_
  obtain ⟨xs, hownv, hrv⟩ := HO
  have hyl := hr.1
  refine wpList_append_own_at W hgd s x 39 ho B 20 i0 _ 1 16 Try.underlying39 hi hz0 hz1 hz2 rfl (by decide) v vs.length xs hs hownv ad us.length c ys hx hyl hcell (arow_cells hr) (by simp only [maxLen]; omega) (by omega) hbase ?_
  intro v1 w1 h1 h2 _ _
  exact h v1 w1 ⟨xs ++ ys, by rw [List.length_append]; exact h1, Kd.reps_append hrv hr⟩ (HB.grown h2 hbase (fun k hk => (World.ownsRow.lt hownv k hk).1)) h2
end
def InPost (r : Option (ByteArray × List S24)) (e : Ending) (w' : World) : Prop := match r with
  | some (out, vs) => ∃ A c, e = .returned (.tuple #[.string out, .slice A vs.length c, .nilIface]) ∧ vs.length ≤ c ∧ kG.C w' A vs.length vs
  | none => ∃ s v t x, e = .returned (.tuple #[.string s, v, .iface t x])
def repQ : Nat → List UInt8
  | 0 => []
  | n + 1 => repQ n ++ [44, 32, 63]
/-- A text's rest, the values that are left, the text and the values so far. -/
def expL : List UInt8 → List S24 → List UInt8 → List S24 → Option (List UInt8 × List S24)
  | [], l, out, acc => if l = [] then some (out, acc) else none
  | c :: t, l, out, acc => if c = 63 then (match l with
      | [] => none
      | x :: xs => if x.f0 = 5 then expL t xs (out ++ 63 :: repQ (x.f3.length - 1)) (acc ++ x.f3) else expL t xs (out ++ [63]) (acc ++ [x]))
    else expL t l (out ++ [c]) acc
def hasL (l : List S24) : Bool := l.any fun x => decide (x.f0 = 5)
def hasE (l : List S24) : Bool := l.any fun x => decide (x.f0 = 5) && x.f3.isEmpty
theorem hasL_snoc (l : List S24) (x : S24) : hasL (l ++ [x]) = (hasL l || decide (x.f0 = 5)) := by simp [hasL]
theorem hasE_snoc (l : List S24) (x : S24) : hasE (l ++ [x]) = (hasE l || (decide (x.f0 = 5) && x.f3.isEmpty)) := by simp [hasE]
/-- A text whose lists' marks are as many as these have elements. -/
def inF (s : ByteArray) (l : List S24) : Option (ByteArray × List S24) := if hasE l = true then none else if hasL l = false then some (s, l) else (expL s.data.toList l [] []).map fun r => (⟨r.1.toArray⟩, r.2)
/-! the notes on the arguments: a row of (list, value, length) -/
abbrev Note := Value × Value × Nat
def zeroN : Note := (.slice none 0 0, .nilIface, 0)
/-- Block g holds n notes. -/
def NotesIs (g : Nat) (F : Nat → Note) (n : Nat) (w : World) : Prop := ∃ (cs : Array Value) (ty : TypeId), w.heap[g]? = some (.cells cs ty (0, 0)) ∧
  ∀ j, j < n → cs[j * 3]? = some (F j).1 ∧ cs[j * 3 + 1]? = some (F j).2.1 ∧ cs[j * 3 + 2]? = some (.int .i64 ((F j).2.2 : Int))
def setN (F : Nat → Note) (i : Nat) (m : Note) : Nat → Note := fun j => if j = i then m else F j
theorem NotesIs.below {g n : Nat} {F : Nat → Note} {w w' : World} (h : NotesIs g F n w) (hb : Below w.heap.size w w') : NotesIs g F n w' := by
  obtain ⟨cs, ty, hg, hc⟩ := h
  exact ⟨cs, ty, (hb.block g (Array.getElem?_eq_some_iff.1 hg).1).trans hg, hc⟩
theorem NotesIs.cells {g n : Nat} {F : Nat → Note} {w : World} (h : NotesIs g F n w) (i : Nat) (hi : i < n) : w.cell? ⟨g, i * 3, none⟩ = some (F i).1 ∧ w.cell? ⟨g, i * 3 + 1, none⟩ = some (F i).2.1 ∧ w.cell? ⟨g, i * 3 + 2, none⟩ = some (.int .i64 ((F i).2.2 : Int)) ∧ (∀ j, w.frozen? ⟨g, j, none⟩ = false) := by
  obtain ⟨cs, ty, hg, hc⟩ := h
  obtain ⟨h1, h2, h3⟩ := hc i hi
  exact ⟨(cell_of_row _ _ _ _ _ _ hg).trans h1, (cell_of_row _ _ _ _ _ _ hg).trans h2, (cell_of_row _ _ _ _ _ _ hg).trans h3, fun j => frozen_of_row _ _ _ _ _ hg⟩
theorem NotesIs.set {g n : Nat} {F : Nat → Note} {w : World} (h : NotesIs g F n w) (i k : Nat) (hi : i < n) (hk : k < 3) (v : Value) (m : Note) (hm : m = if k = 0 then (v, (F i).2.1, (F i).2.2) else if k = 1 then ((F i).1, v, (F i).2.2) else ((F i).1, (F i).2.1, m.2.2)) (hv : k = 2 → v = .int .i64 (m.2.2 : Int)) :
    NotesIs g (setN F i m) n (w.setCell ⟨g, i * 3 + k, none⟩ v) := by
  obtain ⟨cs, ty, hg, hc⟩ := h
  refine ⟨_, ty, heap_setCell_same w g _ cs ty v hg, fun j hj => ?_⟩
  obtain ⟨h1, h2, h3⟩ := hc j hj
  have s1 := (Array.getElem?_eq_some_iff.1 h1).1
  have s2 := (Array.getElem?_eq_some_iff.1 h2).1
  have s3 := (Array.getElem?_eq_some_iff.1 h3).1
  simp only [Array.getElem?_setIfInBounds]
  unfold setN
  by_cases hji : j = i
  · subst hji
    rw [if_pos rfl]
    have hk' : k = 0 ∨ k = 1 ∨ k = 2 := by omega
    rcases hk' with rfl | rfl | rfl
    · have m1 : m = (v, (F j).2.1, (F j).2.2) := hm.trans (if_pos rfl)
      rw [m1]
      refine ⟨by rw [if_pos (by omega), if_pos (by omega)], by rw [if_neg (by omega)]; exact h2, by rw [if_neg (by omega)]; exact h3⟩
    · have m1 : m = ((F j).1, v, (F j).2.2) := hm.trans ((if_neg (by decide)).trans (if_pos rfl))
      rw [m1]
      refine ⟨by rw [if_neg (by omega)]; exact h1, by rw [if_pos (by omega), if_pos (by omega)], by rw [if_neg (by omega)]; exact h3⟩
    · have hv' := hv rfl
      rw [if_neg (by omega), if_neg (by omega)] at hm
      have m1 : m.1 = (F j).1 := by rw [hm]
      have m2 : m.2.1 = (F j).2.1 := by rw [hm]
      refine ⟨by rw [if_neg (by omega), m1]; exact h1, by rw [if_neg (by omega), m2]; exact h2, by rw [if_pos (by omega), if_pos (by omega), hv']⟩
  · rw [if_neg hji]
    exact ⟨by rw [if_neg (by omega)]; exact h1, by rw [if_neg (by omega)]; exact h2, by rw [if_neg (by omega)]; exact h3⟩
theorem made_at (m i : Nat) (h : i < m) : (madeCells #[Value.slice none 0 0, Value.nilIface, Value.int .i64 0] m)[i]? = (#[Value.slice none 0 0, Value.nilIface, Value.int .i64 0] : Array Value)[i % 3]? := by
  have h3 : i % 3 < 3 := Nat.mod_lt _ (by decide)
  have e : (madeCells #[Value.slice none 0 0, Value.nilIface, Value.int .i64 0] m)[i]? = some ((#[Value.slice none 0 0, Value.nilIface, Value.int .i64 0] : Array Value)[i % 3]?.getD default) := by simp [madeCells, h]
  rw [e]
  generalize i % 3 = k at h3
  have : k = 0 ∨ k = 1 ∨ k = 2 := by omega
  rcases this with rfl | rfl | rfl <;> rfl
theorem notes_made (g n m : Nat) (ty : TypeId) (w : World) (cs : Array Value) (hg : w.heap[g]? = some (.cells cs ty (0, 0))) (hcs : ∀ i, i < 3 * n → cs[i]? = (madeCells #[Value.slice none 0 0, Value.nilIface, Value.int .i64 0] m)[i]?) (hm : 3 * n ≤ m) : NotesIs g (fun _ => zeroN) n w := by
  refine ⟨cs, ty, hg, fun j hj => ?_⟩
  rw [hcs (j * 3) (by omega), hcs (j * 3 + 1) (by omega), hcs (j * 3 + 2) (by omega), made_at m _ (by omega), made_at m _ (by omega), made_at m _ (by omega)]
  rw [show j * 3 % 3 = 0 by omega, show (j * 3 + 1) % 3 = 1 by omega, show (j * 3 + 2) % 3 = 2 by omega]
  exact ⟨rfl, rfl, rfl⟩
attribute [local go_sem] Try.zeroValue56 Try.zeroCells56_ne
theorem zero101 : Try.zeroCells56 = madeCells #[Value.slice none 0 0, Value.nilIface, Value.int .i64 0] 96 := by kernel_rfl
theorem NotesIs.congr {g n : Nat} {F F' : Nat → Note} {w : World} (h : NotesIs g F n w) (he : ∀ j, F' j = F j) : NotesIs g F' n w := by
  have e : F' = F := funext he
  rw [e]
  exact h
theorem notes_list {g n : Nat} {F : Nat → Note} {w : World} (h : NotesIs g F n w) (i : Nat) (hi : i < n) (hz : F i = zeroN) (v : Value) (k : Nat) :
    NotesIs g (setN F i (v, .nilIface, k)) n ((w.setCell ⟨g, i * 3 + 2, none⟩ (.int .i64 (k : Int))).setCell ⟨g, i * 3, none⟩ v) := by
  have h1 := h.set i 2 hi (by omega) (.int .i64 (k : Int)) (.slice none 0 0, .nilIface, k) (by rw [hz]; rfl) (fun _ => rfl)
  have h2 := h1.set i 0 hi (by omega) v (v, .nilIface, k) (by simp [setN]) (fun h => by cases h)
  refine NotesIs.congr h2 (fun j => ?_)
  unfold setN
  split <;> rfl
theorem notes_val {g n : Nat} {F : Nat → Note} {w : World} (h : NotesIs g F n w) (i : Nat) (hi : i < n) (hz : F i = zeroN) (u : Value) :
    NotesIs g (setN F i (.slice none 0 0, u, 0)) n (w.setCell ⟨g, i * 3 + 1, none⟩ u) :=
  h.set i 1 hi (by omega) u (.slice none 0 0, u, 0) (by rw [hz]; rfl) (fun h => by cases h)
/-- What a note says of a value, as it lay in w. -/
def NoteOk (w : World) (x : S24) (m : Note) : Prop := (x.f0 = 5 ∧ ∃ A c, m = (.slice A x.f3.length c, .nilIface, x.f3.length) ∧ x.f3.length ≤ c ∧ kGA.C w A x.f3.length x.f3) ∨ (x.f0 ≠ 5 ∧ ∃ u, m = (.slice none 0 0, u, 0) ∧ kG.K w x [u])
def cntL : List S24 → Nat
  | [] => 0
  | x :: xs => (if x.f0 = 5 then x.f3.length else 1) + cntL xs
theorem cntL_snoc (l : List S24) (x : S24) : cntL (l ++ [x]) = cntL l + (if x.f0 = 5 then x.f3.length else 1) := by
  induction l with
  | nil => simp [cntL]
  | cons y t ih =>
    rw [List.cons_append, cntL, cntL, ih]
    omega
theorem cntL_le : ∀ (l : List S24), (∀ x ∈ l, x.f3.length ≤ 4096) → cntL l ≤ l.length * 4096
  | [], _ => by simp [cntL]
  | x :: xs, h => by
    have h1 := cntL_le xs (fun y hy => h y (List.mem_cons_of_mem _ hy))
    have h2 := h x List.mem_cons_self
    rw [cntL, List.length_cons, Nat.succ_mul]
    split <;> omega
theorem notes_step {w : World} {l : List S24} {i : Int} {F : Nat → Note} {m : Note} (h0 : 0 ≤ i) (hK : ∀ j, j < i.toNat → (h : j < l.length) → NoteOk w (l[j]'h) (F j)) (hZ : ∀ j, i.toNat ≤ j → F j = zeroN) (hm : ∀ h : i.toNat < l.length, NoteOk w (l[i.toNat]'h) m) :
    (∀ j, j < (i + 1).toNat → (h : j < l.length) → NoteOk w (l[j]'h) (setN F i.toNat m j)) ∧ (∀ j, (i + 1).toNat ≤ j → setN F i.toNat m j = zeroN) := by
  refine ⟨fun j hj h => ?_, fun j hj => ?_⟩
  · unfold setN
    by_cases e : j = i.toNat
    · subst e
      rw [if_pos rfl]
      exact hm h
    · rw [if_neg e]
      exact hK j (by omega) h
  · unfold setN
    rw [if_neg (by omega)]
    exact hZ j (by omega)
theorem list_reads {w0 W : World} {ad : Addr} {us : List S24} (h : kGA.C W (some ad) us.length us) (ha : ∀ y ∈ us, atomR y) : ReadsRow (kG.K w0) 1 W (some ad) us.length us := by
  refine ⟨h.1, h.2.1, fun hn => ?_⟩
  obtain ⟨ad', e, hc⟩ := h.2.2 hn
  refine ⟨ad', e, fun j p hj => ?_⟩
  obtain ⟨c, h1, h2, h3⟩ := hc j p hj
  refine ⟨c, h1, ?_, h3⟩
  have hp := ha p (List.mem_of_getElem? hj)
  show (if p.f0 = 5 then _ else c = [encG p])
  rw [if_neg (by have := hp.2.1; omega)]
  exact h2
set_option maxHeartbeats 1600000 in
set_option maxRecDepth 100000 in
theorem refl_append (w0 w : World) (B : Nat) (v : Value) (ad : Addr) (c : Nat) (k : Int) (vs us : List S24) (HO : ARow w0 B vs v w) (HE : ReadsRow (kG.K w0) 1 w (some ad) us.length us) (hbase : B ≤ w.heap.size) (hl : vs.length + us.length ≤ 1099511627776) :
    Calls Try.prog 28 #[v, .slice (some ad) us.length c, .int .i64 k] w fun e w' => ∃ v1, e = .returned v1 ∧ ARow w0 B (vs ++ us) v1 w' ∧ Below B w w' ∧ w.grownBy w' v.ownBlock := by
  have HOO := Lib.hid HO
  have HEE := Lib.hid HE
  clear HO HE
  go_enter Try.func28, Try.ntmps28
  go_wp2_with (first | ((with_reducible refine gate_builtin (b := .append) (xs := #[.tmp 7, .tmp 8]) rfl ?_); at_builtin; refine arow_reads (w0 := w0) (wb := w) rfl (.tmp 7) (.tmp 8) rfl v ad c vs us rfl rfl HOO.out HEE.out (Below.refl _ _) hbase hl ?_))
  intro v1 w1 h1 h2 h3
  have H1 := Lib.hid h1
  have H2 := Lib.hid h2
  have H3 := Lib.hid h3
  clear h1 h2 h3
  go_wp2_with fail
  go_ret
  exact ⟨_, rfl, H1.out, H2.out, H3.out⟩
theorem expL_other {c : UInt8} (h : c ≠ 63) (t out : List UInt8) (l acc : List S24) : expL (c :: t) l out acc = expL t l (out ++ [c]) acc := by
  cases l <;> simp [expL, h]
theorem expL_none (t out : List UInt8) (acc : List S24) : expL (63 :: t) [] out acc = none := by simp [expL]
theorem expL_list (t out : List UInt8) (x : S24) (xs acc : List S24) (h : x.f0 = 5) : expL (63 :: t) (x :: xs) out acc = expL t xs (out ++ 63 :: repQ (x.f3.length - 1)) (acc ++ x.f3) := by simp [expL, h]
theorem expL_val (t out : List UInt8) (x : S24) (xs acc : List S24) (h : x.f0 ≠ 5) : expL (63 :: t) (x :: xs) out acc = expL t xs (out ++ [63]) (acc ++ [x]) := by simp [expL, h]
theorem expL_pre (l : List S24) (acc : List S24) : ∀ (pre rest out : List UInt8), (∀ c ∈ pre, c ≠ 63) → expL (pre ++ rest) l out acc = expL rest l (out ++ pre) acc
  | [], rest, out, h => by rw [List.append_nil]; rfl
  | c :: t, rest, out, h => by
    have h1 := List.forall_mem_cons.1 h
    rw [List.cons_append, expL_other h1.1, expL_pre l acc t rest _ h1.2, List.append_assoc]
    rfl
theorem expL_end (l acc : List S24) (rest out : List UInt8) (h : ∀ c ∈ rest, c ≠ 63) : expL rest l out acc = if l = [] then some (out ++ rest, acc) else none := by
  have := expL_pre l acc rest [] out h
  rw [List.append_nil] at this
  rw [this]
  rfl
def ixAt (q : ByteArray) (o : Nat) : Int := ixF (q.data.toList.drop o) 0
theorem extract_tail (s : ByteArray) (n : Nat) : (s.extract n s.size).data.toList = s.data.toList.drop n := by
  have hl : s.data.toList.length = s.size := Array.length_toList
  rw [ByteArray.data_extract, Array.toList_extract, List.extract_eq_take_drop]
  exact List.take_of_length_le (by rw [List.length_drop, hl]; omega)
theorem index_tail (q : ByteArray) (o : Nat) (hq : q.size ≤ 1048576) : ∃ k, QL.sqlx_zzIndex.f k (q.extract o q.size) ⟨#[63]⟩ = some (ixAt q o) := by
  obtain ⟨k, hk⟩ := index_is (q.extract o q.size) (by simp; omega)
  refine ⟨k, hk.trans ?_⟩
  rw [ixI, extract_tail]
  rfl
/-- The second loop's state: g bytes are left at most; q: the text's rest, scanned up to o; a values are taken; ob is written. -/
def InRel (w wr : World) (b : Nat) (s : ByteArray) (l : List S24) (R : Option (List UInt8 × List S24)) (g : Nat) (q : ByteArray) (vs : List S24) (a o : Nat) (ob : List UInt8) (v : Value) (w' : World) : Prop :=
  (q.size - o ≤ g ∧ o ≤ q.size ∧ a ≤ l.length ∧ q.size ≤ s.size ∧ ob.length + q.size ≤ s.size + 3 * cntL (l.take a) ∧ vs.length = cntL (l.take a)) ∧ ARow w wr.heap.size vs v w' ∧ Bld b b ob w' ∧ expL (q.data.toList.drop o) (l.drop a) (ob ++ q.data.toList.take o) vs = R ∧ Below wr.heap.size wr w'
theorem cntL_take {l : List S24} (hl : l.length ≤ 4096) (hr : ∀ x ∈ l, x.f3.length ≤ 4096) (a : Nat) : cntL (l.take a) ≤ 16777216 := by
  have h1 := cntL_le (l.take a) (fun y hy => hr y (List.mem_of_mem_take hy))
  have h2 := Nat.mul_le_mul (show (l.take a).length ≤ 4096 by rw [List.length_take]; omega) (Nat.le_refl 4096)
  omega
theorem cntL_next {l : List S24} (a : Nat) (h : a < l.length) : cntL (l.take (a + 1)) = cntL (l.take a) + (if (l[a]'h).f0 = 5 then (l[a]'h).f3.length else 1) := by
  rw [List.take_succ_eq_append_getElem h, cntL_snoc]
theorem arow_kept {w0 w w' : World} {B : Nat} {vs : List S24} {v : Value} (h : ARow w0 B vs v w) (hk : KeptB w w') : ARow w0 B vs v w' := by
  obtain ⟨inner, ho, hr⟩ := h
  refine ⟨inner, own_move ho (fun k hk2 => ?_), hr⟩
  obtain ⟨cells, hc⟩ := own_typed ho k hk2
  exact hk k _ _ _ hc (by decide) (by decide)
theorem arow_typed {w0 w : World} {B : Nat} {vs : List S24} {v : Value} (h : ARow w0 B vs v w) : ∀ k, v.ownBlock = some k → ∃ c t fr, w.heap[k]? = some (.cells c t fr) ∧ t ≠ 5 ∧ t ≠ 63 := by
  obtain ⟨inner, ho, _⟩ := h
  intro k hk
  obtain ⟨cells, hc⟩ := own_typed ho k hk
  exact ⟨_, _, _, hc, by decide, by decide⟩
theorem extract_head (s : ByteArray) (n : Nat) (h : n ≤ s.size) : (s.extract 0 n).data.toList = s.data.toList.take n ∧ (s.extract 0 n).size = n := by
  have hl : s.data.toList.length = s.size := Array.length_toList
  have h1 : (s.extract 0 n).data.toList = s.data.toList.take n := by
    rw [ByteArray.data_extract, Array.toList_extract, List.extract_eq_take_drop, List.drop_zero, Nat.sub_zero]
  refine ⟨h1, ?_⟩
  have h2 : (s.extract 0 n).data.toList.length = (s.extract 0 n).size := Array.length_toList
  rw [← h2, h1, List.length_take, hl]
  omega
theorem repQ_len : ∀ n, (repQ n).length = 3 * n
  | 0 => rfl
  | n + 1 => by
    rw [repQ, List.length_append, repQ_len n]
    simp
    omega
theorem box_cells {w : World} {g : Nat} {a b c : Value} {t : TypeId} (h : w.heap[g]? = some (.cells #[a, b, c] t (0, 0))) : w.cell? ⟨g, 0, none⟩ = some a ∧ w.cell? ⟨g, 1, none⟩ = some b ∧ w.cell? ⟨g, 2, none⟩ = some c :=
  ⟨cell_of_row _ _ _ _ _ _ h, cell_of_row _ _ _ _ _ _ h, cell_of_row _ _ _ _ _ _ h⟩
theorem info_meta : (Try.prog.info? 55).map (fun i => (i.zero, i.size, i.bytes)) = some (some (.agg #[.slice none 0 0, .nilIface, .int .i64 0]), 3, 48) := by kernel_rfl
theorem notes_own {w : World} {g n : Nat} {c : Nat} {B : Nat} (h : w.ownsRow B 55 3 (.slice (some ⟨g, 0, none⟩) n c) n (madeCells (Value.agg #[.slice none 0 0, .nilIface, .int .i64 0]).cells (n * 3)).toList) : NotesIs g (fun _ => zeroN) n w := by
  rcases h.2 with ⟨he, _⟩ | ⟨g', cap, cur, he, _, hg, hnc, _, hsz, htk⟩
  · cases he
  · injection he with he _ _
    injection he with he
    injection he with he
    subst he
    refine notes_made g n (n * 3) _ w cur hg (fun i hi => ?_) (by omega)
    have e : (madeCells #[Value.slice none 0 0, Value.nilIface, Value.int .i64 0] (n * 3))[i]? = (cur.toList.take (n * 3))[i]? := by
      rw [htk, Array.getElem?_toList]
      rfl
    rw [e, List.getElem?_take_of_lt (by omega), Array.getElem?_toList]
set_option maxHeartbeats 6400000 in
set_option maxRecDepth 100000 in
theorem in_walk (s : ByteArray) (hs : s.size ≤ 65536) (l : List S24) (hl : l.length ≤ 4096) (hr : ∀ x ∈ l, rightR x ∧ x.f3.length ≤ 4096) (w : World) (A : Option Addr) (c : Nat) (hc : l.length ≤ c) (hC : kG.C w A l.length l) :
    Calls Try.prog 19 #[.string s, .slice A l.length c] w fun e w' => Below w.heap.size w w' ∧ InPost (inF s l) e w' := by
  have HC := Lib.hid hC
  have HR := Lib.hid hr
  obtain ⟨R, hR⟩ : ∃ R, R = inF s l := ⟨_, rfl⟩
  rw [← hR]
  have HRR := Lib.hid hR.symm
  clear hC hr hR
  go_enter Try.func19, Try.ntmps19
  by_cases h32 : (l.length : Int) ≤ 32
  · have hN : NotesIs w.heap.size (fun _ => zeroN) l.length (w.alloc (.cells Try.zeroCells56 56)) := notes_made _ _ 96 _ _ _ (heap_alloc_new w _) (fun i _ => by rw [zero101]) (by omega)
    have HN := Lib.hid hN
    have HB0 := Lib.hid (one_below w (.cells Try.zeroCells56 56))
    have HG := Lib.hid (show w.heap.size < (w.alloc (.cells Try.zeroCells56 56)).heap.size by show w.heap.size < (w.heap.push _).size; simp)
    clear hN
    have HGN := Lib.hid (Nat.le_refl w.heap.size)
    go_wp2_with fail
    go_loopg [7, 8, 33] l.length (fun g v7 v8 v33 w' => ∃ (i : Int) (F : Nat → Note), v33 = .int .i64 i ∧ Hid (0 ≤ i ∧ i + g = l.length) ∧ v7 = .int .i64 (cntL (l.take i.toNat) : Int) ∧ v8 = .bool (hasL (l.take i.toNat)) ∧ Hid (hasE (l.take i.toNat) = false) ∧ Hid (NotesIs w.heap.size F l.length w') ∧ Hid (∀ j, j < i.toNat → (h : j < l.length) → NoteOk w (l[j]'h) (F j)) ∧ Hid (∀ j, i.toNat ≤ j → F j = zeroN) ∧ Below w.heap.size w w')
    case atStart => exact ⟨0, fun _ => zeroN, rfl, Lib.hid ⟨by omega, by omega⟩, rfl, rfl, Lib.hid rfl, HN, Lib.hid (fun j h => by omega), Lib.hid (fun j _ => rfl), HB0.out⟩
    case round =>
      obtain ⟨i, F, rfl, HI, rfl, rfl, HE, HM, HK, HZ, HB⟩ := hrel
      cases gk with
      | zero =>
        have hi := HI.out
        have hge : ¬ i < (l.length : Int) := by omega
        have hall : l.take i.toNat = l := List.take_of_length_le (by omega)
        have hE := HE.out
        rw [hall] at hE
        have HEE := Lib.hid hE
        have HKF : Hid (∀ j, (h : j < l.length) → NoteOk w (l[j]'h) (F j)) := Lib.hid (fun j h => HK.out j (by omega) h)
        have hcn : cntL l ≤ 16777216 := by
          have h1 := cntL_le l (fun y hy => (HR.out y hy).2)
          have h2 := Nat.mul_le_mul hl (Nat.le_refl 4096)
          omega
        rw [hall]
        clear hall HE HK HZ hE hi
        cases hL : hasL l with
        | false =>
          go_wp2_with fail
          go_ret3
          refine ⟨HB, ?_⟩
          rw [← HRR.out, inF, if_neg (by rw [HEE.out]; decide), if_pos hL]
          exact ⟨_, _, rfl, hc, Kd.C_below HC.out HB⟩
        | true =>
          have hRV : R = (expL s.data.toList l [] []).map fun r => ((⟨r.1.toArray⟩ : ByteArray), r.2) := by rw [← HRR.out, inF, if_neg (by rw [HEE.out]; decide), if_neg (by rw [hL]; decide)]
          have HRV := Lib.hid hRV
          have HBW := Lib.hid HB
          clear hRV
          go_wp2_with (first | (at_make; refine make_any w wr wr.heap.size rfl _ _ rfl _ (cntL l) rfl rfl rfl (by omega) (Nat.le_refl _) ?_; intro w2 hO1 hg1; refine Hid.out ?_))
          refine Lib.hid ?_
          have HO1 := Lib.hid hO1
          have HB2 := below_none hg1 (Nat.le_refl _) (Below.refl wr.heap.size wr)
          clear hO1 hg1
          go_wp2_with fail
          refine calls_of_args (args' := #[.pointer (some ⟨w2.heap.size, 0, none⟩), .int .i64 ((s.size + 3 * cntL l : Nat) : Int)]) (by rw [Int.natCast_add, Int.natCast_mul]; rfl) ?_
          have HHB := Lib.hid HB
          have HHB2 := Lib.hid HB2
          have hsz2 := HB2.size
          refine (Try.Builder_Grow_fresh w2.heap.size w2.heap.size (s.size + 3 * cntL l) _ (Nat.le_refl _) (heap_alloc_new w2 _) (by show w2.heap.size ≤ (w2.heap.push _).size; simp) (by omega)).mono ?_
          rintro e w3 ⟨rfl, hbld, hb3⟩
          have hb23 : Below w2.heap.size w2 w3 := (one_below w2 _).trans hb3
          have hB3 : Below wr.heap.size wr w3 := HB2.trans (hb23.mono hsz2)
          have HBLD2 : Hid (Bld w2.heap.size w2.heap.size [] w3) := Lib.hid hbld
          have HB3 := Lib.hid hB3
          have HO3 := Lib.hid (OwnRow.below HO1.out hb23)
          have HNT := Lib.hid (HM.out.below hB3)
          clear hbld hb3 hb23 HO1 HB2 HHB2 hB3
          go_wp2_with fail
          obtain ⟨k0, hk0⟩ := index_is s (by omega)
          refine (QL.sqlx_zzIndex.calls k0 s _ (ixI s) _ hk0).mono ?_
          rintro e w4 ⟨rfl, ⟨n4, rfl⟩⟩
          have hB4 := pw_below_drewN HB3.out n4
          have H4 : InRel w wr w2.heap.size s l (expL s.data.toList l [] []) s.size s [] 0 0 [] (.slice (some ⟨wr.heap.size, 0, none⟩) 0 (cntL l)) (w3.drewN n4) := ⟨⟨by omega, by omega, by omega, Nat.le_refl _, by simp, by simp [cntL]⟩, OwnRow.below HO3.out (pw_below_drewN (Below.refl _ _) n4), Bld.lower (Bld.below HBLD2.out (pw_below_drewN (Below.refl _ _) n4)) (Nat.le_refl _), by simp, hB4⟩
          have HH4 := Lib.hid H4
          clear hk0 hB4 H4 HB3 HO3
          rw [show ixI s = ixAt s 0 by rw [ixAt, List.drop_zero]; rfl]
          go_wp2_with fail
          go_loopg [0, 15, 17, 18, 19] s.size (fun g v0 v15 v17 v18 v19 w' => ∃ (q : ByteArray) (vs : List S24) (a o : Nat) (ob : List UInt8), v0 = .string q ∧ v17 = .int .i64 (a : Int) ∧ v18 = .int .i64 (o : Int) ∧ v19 = .int .i64 (ixAt q o) ∧ Hid (InRel w wr w2.heap.size s l (expL s.data.toList l [] []) g q vs a o ob v15 w'))
          case atStart => exact ⟨s, [], 0, 0, [], rfl, rfl, rfl, rfl, HH4⟩
          case round =>
            obtain ⟨q, vs, a, o, ob, rfl, rfl, rfl, rfl, HF⟩ := hrel
            clear HH4
            obtain ⟨⟨hqg, hoq, hal, hqs, hob, hvl⟩, ho, hbd, hx, hb⟩ := HF.out
            have HO5 := Lib.hid ho
            have HBD := Lib.hid hbd
            have HB5 := Lib.hid hb
            have hca := cntL_take hl (fun y hy => (HR.out y hy).2) a
            have HQL := Lib.hid (show q.data.toList.length = q.size from Array.length_toList)
            have HVL := Lib.hid hvl
            clear HF ho hbd hb hvl
            rcases ixF_split (q.data.toList.drop o) 0 with ⟨hi, hno⟩ | ⟨pre, post, hsp, hpre, hi⟩
            · have hi' : ixAt q o = -1 := hi
              rw [hi']
              have hX : (if l.drop a = [] then some (ob ++ q.data.toList, vs) else none) = expL s.data.toList l [] [] := by
                rw [← hx, expL_end _ _ _ _ hno, List.append_assoc, List.take_append_drop]
              have HX := Lib.hid hX
              clear hx hX hi hi' hno
              go_wp2_with fail
              refine (bld_write w2.heap.size w2.heap.size ob q _ HBD.out (Nat.le_of_lt HBD.out.lt) (by omega)).mono ?_
              rintro e w6 ⟨rfl, hbd6, hb6, hk6⟩
              have HBD6 := Lib.hid hbd6
              have HB6 := Lib.hid (HB5.out.trans (hb6.mono hsz2))
              have HO6 := Lib.hid (arow_kept HO5.out hk6)
              clear hbd6 hb6 hk6
              by_cases haa : (a : Int) < (l.length : Int)
              · go_wp2_with fail
                refine (errors_new _ _).mono ?_
                rintro e w7 ⟨⟨t, y, rfl⟩, hb7⟩
                have HB7 := Lib.hid (HB6.out.trans (hb7.mono HB6.out.size))
                clear hb7
                go_wp2_with fail
                go_ret3
                refine ⟨HBW.out.trans (HB7.out.mono HBW.out.size), ?_⟩
                have hne : l.drop a ≠ [] := by
                  intro e
                  have := congrArg List.length e
                  rw [List.length_drop, List.length_nil] at this
                  omega
                rw [HRV.out, ← HX.out, if_neg hne]
                exact ⟨_, _, _, _, rfl⟩
              · go_wp2_with fail
                refine (Try.Builder_String_any_k w2.heap.size w2.heap.size (ob ++ q.data.toList) w6 (.inr (Lib.BuilderAtF.of HBD6.out)) (Nat.le_of_lt HBD6.out.lt)).mono ?_
                rintro e w7 ⟨rfl, _, hb7, hk7⟩
                have HB7 := Lib.hid (HB6.out.trans (hb7.mono hsz2))
                have HO7 := Lib.hid (arow_kept HO6.out (KeptB.others hk7 HBD6.out))
                clear hb7 hk7
                have hWR := HBW.out.trans (HB7.out.mono HBW.out.size)
                obtain ⟨A7, c7, e7, hl7, hr7⟩ := ARow.got HO7.out hWR
                rw [e7]
                have HR7 := Lib.hid hr7
                have HWR := Lib.hid hWR
                clear hr7 hWR e7
                go_wp2_with fail
                go_ret3
                refine ⟨HWR.out, ?_⟩
                rw [HRV.out, ← HX.out, if_pos (List.drop_eq_nil_of_le (by omega))]
                exact ⟨A7, c7, rfl, hl7, HR7.out⟩
            · have hi' : ixAt q o = (pre.length : Int) := by rw [ixAt, hi, Nat.zero_add]
              rw [hi']
              have hlen := congrArg List.length hsp
              rw [List.length_append, List.length_cons, List.length_drop, HQL.out] at hlen
              rw [hsp, expL_pre _ _ _ _ _ hpre] at hx
              have htk : q.data.toList.take (o + pre.length + 1) = q.data.toList.take o ++ (pre ++ [63]) := by
                have h1 : q.data.toList = (q.data.toList.take o ++ (pre ++ [63])) ++ post := by
                  conv => lhs; rw [← List.take_append_drop o q.data.toList, hsp]
                  simp
                conv => lhs; rw [h1]
                exact List.take_left' (by rw [List.length_append, List.length_take, HQL.out, List.length_append, List.length_singleton]; omega)
              have hdr : q.data.toList.drop (o + pre.length + 1) = post := by
                rw [Nat.add_assoc, ← List.drop_drop, hsp, show pre ++ 63 :: post = (pre ++ [63]) ++ post by simp]
                exact List.drop_left' (by simp)
              have HTK := Lib.hid htk
              have HDR := Lib.hid hdr
              clear htk hdr hi hi' hsp hpre
              cases gk with
              | zero => omega
              | succ g =>
                by_cases haa : (a : Int) < (l.length : Int)
                · have hal2 : a < l.length := by omega
                  have hcells := (HM.out.below HB5.out).cells a hal2
                  have hnote := HKF.out a hal2
                  have hXa := HR.out (l[a]'hal2) (List.getElem_mem _)
                  have hnx := cntL_next a hal2
                  rw [List.drop_eq_getElem_cons hal2] at hx
                  obtain ⟨x, hxe⟩ : ∃ x, x = l[a]'hal2 := ⟨_, rfl⟩
                  rw [← hxe] at hnote hXa hnx hx
                  have HXE := Lib.hid hxe
                  clear hxe
                  generalize F a = m at hcells hnote
                  obtain ⟨m0, m1, m2, mf⟩ := hcells
                  rcases hnote with ⟨h5, A2, c2, rfl, hl2, hC2⟩ | ⟨h5, u, rfl, hu⟩
                  · have hpos : 0 < x.f3.length := by
                      rcases Nat.eq_zero_or_pos x.f3.length with h0 | h0
                      · have hmem : x ∈ l := by
                          rw [HXE.out]
                          exact List.getElem_mem _
                        have h1 : hasE l = true := List.any_eq_true.2 ⟨x, hmem, by rw [decide_eq_true h5, Bool.true_and, List.isEmpty_iff]; exact List.eq_nil_of_length_eq_zero h0⟩
                        rw [HEE.out] at h1
                        cases h1
                      · exact h0
                    rw [expL_list _ _ _ _ _ h5] at hx
                    rw [if_pos h5] at hnx
                    have hat : ∀ y ∈ x.f3, atomR y := by
                      rcases hXa.1 with h | ⟨_, _, _, h⟩
                      · exact absurd h5 (by have := h.2.1; omega)
                      · exact h
                    have HX := Lib.hid hx
                    have HNX := Lib.hid hnx
                    have HAT := Lib.hid hat
                    have hx3 := hXa.2
                    obtain ⟨ad2, rfl, _⟩ := hC2.2.2 hpos
                    have HC2 := Lib.hid hC2
                    simp only [] at m0 m1 m2
                    have hzl : ¬ (x.f3.length : Int) = 0 := by omega
                    obtain ⟨W8, hW8⟩ : ∃ W8, W8 = wr.alloc (.cells #[.slice (some ad2) x.f3.length c2, .nilIface, .int .i64 (x.f3.length : Int)] 55) := ⟨_, rfl⟩
                    have HW8 := Lib.hid hW8
                    have HO8 : Hid (ARow w _ vs u15 W8) := Lib.hid (by rw [hW8]; exact OwnRow.below HO5.out (one_below wr _))
                    have HBD8 : Hid (Bld w2.heap.size w2.heap.size ob W8) := Lib.hid (by rw [hW8]; exact Bld.below HBD.out (one_below wr _))
                    have HB8 : Hid (Below _ _ W8) := Lib.hid (by rw [hW8]; exact below_alloc HB5.out _)
                    have HBOX : Hid (W8.heap[wr.heap.size]? = some (.cells #[.slice (some ad2) x.f3.length c2, .nilIface, .int .i64 (x.f3.length : Int)] 55 (0, 0))) := Lib.hid (by rw [hW8]; exact heap_alloc_new wr _)
                    obtain ⟨hex, hes⟩ := extract_head q (o + pre.length + 1) (by omega)
                    have HEX := Lib.hid hex
                    have HES := Lib.hid hes
                    clear hx hnx hat hC2 hW8 hex hes
                    go_wp2_with fail
                    rw [← HW8.out]
                    refine (bld_write w2.heap.size w2.heap.size ob _ W8 HBD8.out (Nat.le_of_lt HBD8.out.lt) (by rw [HES.out]; omega)).mono ?_
                    rintro e w9 ⟨rfl, hbd9, hb9, hk9⟩
                    rw [HEX.out] at hbd9
                    have HBD9 := Lib.hid hbd9
                    have HB9 := Lib.hid hb9
                    have HK9 := Lib.hid hk9
                    clear hbd9 hb9 hk9
                    go_wp2_with fail
                    go_loopg [21] (x.f3.length - 1) (fun g2 v21 w' => ∃ (k : Nat), v21 = .int .i64 ((k : Int) + 1) ∧ Hid (k + g2 = x.f3.length - 1) ∧ Hid (Bld w2.heap.size w2.heap.size (ob ++ q.data.toList.take (o + pre.length + 1) ++ repQ k) w') ∧ Hid (KeptB W8 w') ∧ Hid (Below w2.heap.size W8 w'))
                    case atStart => exact ⟨0, rfl, Lib.hid (by omega), Lib.hid (by rw [repQ, List.append_nil]; exact HBD9.out), HK9, HB9⟩
                    case round =>
                      obtain ⟨k, rfl, HKG, HBDk, HKk, HBk⟩ := hrel
                      have hkg := HKG.out
                      obtain ⟨b0, b1, b2⟩ := box_cells ((HKk.out _ _ _ _ HBOX.out (by decide) (by decide)).trans HBOX.out)
                      cases gk with
                      | succ g2 =>
                        have hlt2 : (k : Int) + 1 < (x.f3.length : Int) := by omega
                        clear hkg
                        go_wp2_with fail
                        refine (bld_write w2.heap.size w2.heap.size _ ⟨#[44, 32, 63]⟩ _ HBDk.out (Nat.le_of_lt HBDk.out.lt) ?_).mono ?_
                        · have := repQ_len k
                          have := HKG.out
                          have := HQL.out
                          rw [List.length_append, List.length_append, List.length_take, repQ_len]
                          show _ + 3 ≤ _
                          omega
                        rintro e w11 ⟨rfl, hbd11, hb11, hk11⟩
                        have HBD11 := Lib.hid hbd11
                        have HB11 := Lib.hid (HBk.out.trans hb11)
                        have HK11 := Lib.hid (HKk.out.trans hk11)
                        clear hbd11 hb11 hk11
                        go_wp2_with fail
                        go_roundg g2
                        case measure => omega
                        case rel => exact ⟨k + 1, rfl, Lib.hid (by have := HKG.out; omega), Lib.hid (by rw [repQ, ← List.append_assoc]; exact HBD11.out), HK11, HB11⟩
                      | zero =>
                        have hge2 : ¬ (k : Int) + 1 < (x.f3.length : Int) := by omega
                        obtain rfl : k = x.f3.length - 1 := by omega
                        have hBk := HB8.out.trans (HBk.out.mono hsz2)
                        have hWk := HBW.out.trans (hBk.mono HBW.out.size)
                        have HOk := Lib.hid (arow_kept HO8.out HKk.out)
                        have HEk := Lib.hid (list_reads (w0 := w) (Kd.C_below HC2.out hWk) HAT.out)
                        have HBk2 := Lib.hid hBk
                        clear hkg hBk hWk
                        go_wp2_with fail
                        refine (refl_append w _ _ u15 ad2 c2 _ vs x.f3 HOk.out HEk.out HBk2.out.size (by have := HVL.out; omega)).mono ?_
                        rintro e w12 ⟨v12, rfl, ho12, hb12, hg12⟩
                        have HO12 := Lib.hid ho12
                        have HB12 := Lib.hid (HBk2.out.trans hb12)
                        have HBD12 := Lib.hid (Bld.grown HBDk.out hg12 (arow_typed HOk.out))
                        clear ho12 hb12 hg12
                        obtain ⟨q2, hq2⟩ : ∃ q2, q2 = q.extract (o + pre.length + 1) q.size := ⟨_, rfl⟩
                        have hq2l : q2.data.toList = post := by rw [hq2, extract_tail, HDR.out]
                        have hq2s : q2.size = post.length := by
                          have : q2.data.toList.length = q2.size := Array.length_toList
                          rw [← this, hq2l]
                        obtain ⟨k2, hk2⟩ := index_is q2 (by omega)
                        have HK2 := Lib.hid hk2
                        have HQ2 := Lib.hid hq2
                        have HQ2L := Lib.hid hq2l
                        clear hk2 hq2 hq2l
                        go_wp2_with fail
                        have hq2e : q2.extract 0 (q.size - (o + pre.length + 1)) = q2 := by
                          apply ByteArray.ext
                          apply Array.toList_inj.1
                          rw [(extract_head q2 (q.size - (o + pre.length + 1)) (by omega)).1]
                          exact List.take_of_length_le (by rw [HQ2L.out]; omega)
                        rw [← HQ2.out, hq2e]
                        refine (QL.sqlx_zzIndex.calls k2 _ _ _ _ HK2.out).mono ?_
                        rintro e w13 ⟨rfl, ⟨n13, rfl⟩⟩
                        rw [show ixI q2 = ixAt q2 0 by rw [ixAt, List.drop_zero]; rfl]
                        go_wp2_with fail
                        go_roundg g
                        case measure => omega
                        case rel =>
                          have hrl := repQ_len (x.f3.length - 1)
                          have hql2 := HQL.out
                          refine ⟨q2, vs ++ x.f3, a + 1, 0, ob ++ q.data.toList.take (o + pre.length + 1) ++ repQ (x.f3.length - 1), rfl, rfl, rfl, rfl, Lib.hid ⟨⟨by omega, by omega, by omega, by omega, ?_, by rw [List.length_append, HNX.out, HVL.out]⟩, OwnRow.below HO12.out (pw_below_drewN (Below.refl _ _) n13), Bld.below HBD12.out (pw_below_drewN (Below.refl _ _) n13), ?_, pw_below_drewN HB12.out n13⟩⟩
                          · rw [HNX.out, List.length_append, List.length_append, List.length_take, hql2, hrl]
                            omega
                          · rw [List.drop_zero, List.take_zero, List.append_nil, HQ2L.out, HTK.out, ← HX.out]
                            simp only [List.append_assoc, List.cons_append, List.nil_append]
                  · rw [expL_val _ _ _ _ _ h5] at hx
                    rw [if_neg h5] at hnx
                    have HX := Lib.hid hx
                    have HNX := Lib.hid hnx
                    have HU := Lib.hid hu
                    have HIF := kG_if _ _ _ hu
                    simp only [] at m0 m1 m2
                    clear hx hnx hu
                    obtain ⟨k1, hk1⟩ := index_tail q (o + pre.length + 1) (by omega)
                    have HK1 := Lib.hid hk1
                    have hbase := HB5.out.size
                    clear hk1
                    have HO8 := Lib.hid (OwnRow.below HO5.out (one_below wr (.cells #[.slice none 0 0, u, .int .i64 0] 55)))
                    have HBD8 := Lib.hid (Bld.below HBD.out (one_below wr (.cells #[.slice none 0 0, u, .int .i64 0] 55)))
                    have HB8 := Lib.hid (below_alloc HB5.out (.cells #[.slice none 0 0, u, .int .i64 0] 55))
                    have HSZ : Hid ((wr.alloc (.cells #[.slice none 0 0, u, .int .i64 0] 55)).heap.size = wr.heap.size + 1) := Lib.hid (by show (wr.heap.push _).size = _; simp)
                    have hvl := HVL.out
                    have hvb : vs.length + 1 ≤ 8796093022208 := by omega
                    have HVB := Lib.hid hvb
                    clear hvl hvb
                    rcases HIF with rfl | ⟨t, v, rfl⟩
                    all_goals
                      go_wp2_with (first | ((with_reducible refine gate_builtin (b := .append) (xs := #[.tmp 117, .tmp 120]) rfl ?_); at_builtin; refine OwnRow.append (R := kG.K w) (w0 := _) _ rfl (.tmp 117) (.tmp 120) 39 20 .nilIface 1 16 rfl Try.underlying39 info_iface rfl (by decide) (by decide) u15 vs x [_] rfl (by rw [HSZ.out]; rfl) HU.out rfl (kG.K_one HU.out) HO8.out HB8.out HB8.out.size (by have := HVB.out; omega) ?_))
                      intro v1 w6 hO6 hB6 hg6 _
                      have HO6 : Hid (ARow w _ (vs ++ [x]) v1 w6) := Lib.hid hO6
                      have HB6 := Lib.hid hB6
                      have HBD6 := Lib.hid (Bld.grown HBD8.out hg6 (arow_typed HO8.out))
                      clear hO6 hB6 hg6
                      go_wp2_with fail
                      refine (QL.sqlx_zzIndex.calls k1 _ _ _ _ HK1.out).mono ?_
                      rintro e w7 ⟨rfl, ⟨n7, rfl⟩⟩
                      go_wp2_with fail
                      go_roundg g
                      case measure => omega
                      case rel =>
                        refine ⟨q, vs ++ [x], a + 1, o + pre.length + 1, ob, rfl, rfl, rfl, rfl, Lib.hid ⟨⟨by omega, by omega, by omega, hqs, by rw [HNX.out]; omega, by rw [List.length_append, List.length_singleton, HNX.out, HVL.out]⟩, OwnRow.below HO6.out (pw_below_drewN (Below.refl _ _) n7), Bld.below HBD6.out (pw_below_drewN (Below.refl _ _) n7), ?_, pw_below_drewN HB6.out n7⟩⟩
                        rw [HDR.out, HTK.out, ← HX.out]
                        simp only [List.append_assoc]
                · go_wp2_with fail
                  refine (errors_new _ _).mono ?_
                  rintro e w7 ⟨⟨t, y, rfl⟩, hb7⟩
                  have HB7 := Lib.hid (HB5.out.trans (hb7.mono HB5.out.size))
                  clear hb7
                  go_wp2_with fail
                  go_ret3
                  refine ⟨HBW.out.trans (HB7.out.mono HBW.out.size), ?_⟩
                  rw [List.drop_eq_nil_of_le (by omega), expL_none] at hx
                  rw [HRV.out, ← hx]
                  exact ⟨_, _, _, _, rfl⟩
      | succ g =>
        have hi := HI.out
        have hlt : i < (l.length : Int) := by omega
        have h0 : 0 ≤ i := hi.1
        obtain ⟨ad, u, rfl, hK, hcell0⟩ := one_cell (d := kG) rfl HC.out i h0 hlt
        have hcell := pw_cell_below HB hcell0
        have hX := atom_at l (fun x => rightR x ∧ x.f3.length ≤ 4096) HR.out i h0 hlt
        have HT := Lib.hid (take_next l i h0 hlt)
        have hget : ∀ h : i.toNat < l.length, rd_T24 l i = l[i.toNat]'h := by
          intro h
          unfold rd_T24
          rw [List.getD_eq_getElem?_getD, List.getElem?_eq_getElem h]
          rfl
        have HGET := Lib.hid hget
        have hmz := HZ.out i.toNat (Nat.le_refl _)
        have hmc := HM.out.cells i.toNat (by omega)
        rw [hmz] at hmc
        have HX := Lib.hid hX
        have HKK := Lib.hid hK
        have HIF := kG_if _ _ _ hK
        clear hX hK hget hcell0 hi
        generalize rd_T24 l i = x at HX HKK HT HGET HIF
        rcases HIF with rfl | ⟨t, v, rfl⟩
        all_goals
          go_wp2_with fail
          refine (asSlice_is x HX.out.1 _ w _ HKK.out).mono ?_
          rintro e w2 ⟨hb2, hcase⟩
          have hmc2 := (HM.out.below hb2).cells i.toNat (by omega)
          rw [hmz] at hmc2
          obtain ⟨m0, m1, m2, mf⟩ := hmc2
          simp only [zeroN] at m0 m1 m2
          have HM2 := Lib.hid (HM.out.below hb2)
          have HB2 := HB.trans (hb2.mono HB.size)
          have hcn : cntL (l.take i.toNat) ≤ 16777216 := by
            have h1 := cntL_le (l.take i.toNat) (fun y hy => (HR.out y (List.mem_of_mem_take hy)).2)
            have h2 := Nat.mul_le_mul (show (l.take i.toNat).length ≤ 4096 by rw [List.length_take]; omega) (Nat.le_refl 4096)
            omega
          have hx3 := HX.out.2
          have hg := HB.size
          clear hmc hmz hb2
          rcases hcase with ⟨h5, A2, c2, rfl, hl2, hC2⟩ | ⟨h5, rfl⟩
        · have HOK : Hid (NoteOk w x (.slice A2 x.f3.length c2, .nilIface, x.f3.length)) := Lib.hid (.inl ⟨h5, A2, c2, rfl, hl2, hC2⟩)
          have HH5 := Lib.hid h5
          clear hl2 hC2 h5
          by_cases hz0 : (x.f3.length : Int) = 0
          · go_wp2_with fail
            refine (errors_new _ _).mono ?_
            rintro e w3 ⟨⟨t, y, rfl⟩, hb3⟩
            have HB3 := Lib.hid hb3
            clear hb3
            go_wp2_with fail
            go_ret3
            have hb4 := below_set (j := i.toNat * 3) (v := .slice A2 x.f3.length c2) (below_set (j := i.toNat * 3 + 2) (v := .int .i64 0) HB2 HGN.out) HGN.out
            refine ⟨hb4.trans (HB3.out.mono hb4.size), ?_⟩
            have hmem : x ∈ l := by
              rw [HGET.out (by omega)]
              exact List.getElem_mem _
            have hE : hasE l = true := List.any_eq_true.2 ⟨x, hmem, by rw [decide_eq_true HH5.out, Bool.true_and, List.isEmpty_iff]; exact List.eq_nil_of_length_eq_zero (by omega)⟩
            rw [← HRR.out, inF, if_pos hE]
            exact ⟨_, _, _, _, rfl⟩
          · go_wp2_with fail
            go_roundg g
            case measure => omega
            case rel =>
              have hi := HI.out
              have hst := notes_step (m := (.slice A2 x.f3.length c2, .nilIface, x.f3.length)) (by omega) HK.out HZ.out (fun h => by rw [← HGET.out h]; exact HOK.out)
              refine ⟨i + 1, setN F i.toNat (.slice A2 x.f3.length c2, .nilIface, x.f3.length), rfl, Lib.hid (by omega), ?_, ?_, Lib.hid ?_, Lib.hid (notes_list HM2.out i.toNat (by omega) (HZ.out _ (Nat.le_refl _)) _ _), Lib.hid hst.1, Lib.hid hst.2, below_set (below_set HB2 HGN.out) HGN.out⟩
              · rw [HT.out, cntL_snoc, if_pos HH5.out, Int.natCast_add]
              · rw [HT.out, hasL_snoc, decide_eq_true HH5.out, Bool.or_true]
              · rw [HT.out, hasE_snoc, HE.out, decide_eq_true HH5.out, Bool.false_or, Bool.true_and]
                cases hx : x.f3 with
                | nil =>
                  rw [hx] at hz0
                  exact absurd rfl hz0
                | cons y t => rfl
        · have HOK : Hid (NoteOk w x (.slice none 0 0, .nilIface, 0)) := Lib.hid (.inr ⟨h5, _, rfl, HKK.out⟩)
          have HH5 := Lib.hid h5
          clear h5
          go_wp2_with fail
          go_roundg g
          case measure => omega
          case rel =>
            have hi := HI.out
            have hst := notes_step (m := (.slice none 0 0, .nilIface, 0)) (by omega) HK.out HZ.out (fun h => by rw [← HGET.out h]; exact HOK.out)
            refine ⟨i + 1, setN F i.toNat (.slice none 0 0, .nilIface, 0), rfl, Lib.hid (by omega), ?_, ?_, Lib.hid ?_, Lib.hid (notes_val HM2.out i.toNat (by omega) (HZ.out _ (Nat.le_refl _)) _), Lib.hid hst.1, Lib.hid hst.2, below_set HB2 HGN.out⟩
            · rw [HT.out, cntL_snoc, if_neg HH5.out, Int.natCast_add]
              rfl
            · rw [HT.out, hasL_snoc, decide_eq_false HH5.out, Bool.or_false]
            · rw [HT.out, hasE_snoc, HE.out, decide_eq_false HH5.out, Bool.false_or, Bool.false_and]
        · have HOK : Hid (NoteOk w x (.slice A2 x.f3.length c2, .nilIface, x.f3.length)) := Lib.hid (.inl ⟨h5, A2, c2, rfl, hl2, hC2⟩)
          have HH5 := Lib.hid h5
          clear hl2 hC2 h5
          by_cases hz0 : (x.f3.length : Int) = 0
          · go_wp2_with fail
            refine (errors_new _ _).mono ?_
            rintro e w3 ⟨⟨t, y, rfl⟩, hb3⟩
            have HB3 := Lib.hid hb3
            clear hb3
            go_wp2_with fail
            go_ret3
            have hb4 := below_set (j := i.toNat * 3) (v := .slice A2 x.f3.length c2) (below_set (j := i.toNat * 3 + 2) (v := .int .i64 0) HB2 HGN.out) HGN.out
            refine ⟨hb4.trans (HB3.out.mono hb4.size), ?_⟩
            have hmem : x ∈ l := by
              rw [HGET.out (by omega)]
              exact List.getElem_mem _
            have hE : hasE l = true := List.any_eq_true.2 ⟨x, hmem, by rw [decide_eq_true HH5.out, Bool.true_and, List.isEmpty_iff]; exact List.eq_nil_of_length_eq_zero (by omega)⟩
            rw [← HRR.out, inF, if_pos hE]
            exact ⟨_, _, _, _, rfl⟩
          · go_wp2_with fail
            go_roundg g
            case measure => omega
            case rel =>
              have hi := HI.out
              have hst := notes_step (m := (.slice A2 x.f3.length c2, .nilIface, x.f3.length)) (by omega) HK.out HZ.out (fun h => by rw [← HGET.out h]; exact HOK.out)
              refine ⟨i + 1, setN F i.toNat (.slice A2 x.f3.length c2, .nilIface, x.f3.length), rfl, Lib.hid (by omega), ?_, ?_, Lib.hid ?_, Lib.hid (notes_list HM2.out i.toNat (by omega) (HZ.out _ (Nat.le_refl _)) _ _), Lib.hid hst.1, Lib.hid hst.2, below_set (below_set HB2 HGN.out) HGN.out⟩
              · rw [HT.out, cntL_snoc, if_pos HH5.out, Int.natCast_add]
              · rw [HT.out, hasL_snoc, decide_eq_true HH5.out, Bool.or_true]
              · rw [HT.out, hasE_snoc, HE.out, decide_eq_true HH5.out, Bool.false_or, Bool.true_and]
                cases hx : x.f3 with
                | nil =>
                  rw [hx] at hz0
                  exact absurd rfl hz0
                | cons y t => rfl
        · have HOK : Hid (NoteOk w x (.slice none 0 0, (.iface t v), 0)) := Lib.hid (.inr ⟨h5, _, rfl, HKK.out⟩)
          have HH5 := Lib.hid h5
          clear h5
          go_wp2_with fail
          go_roundg g
          case measure => omega
          case rel =>
            have hi := HI.out
            have hst := notes_step (m := (.slice none 0 0, (.iface t v), 0)) (by omega) HK.out HZ.out (fun h => by rw [← HGET.out h]; exact HOK.out)
            refine ⟨i + 1, setN F i.toNat (.slice none 0 0, (.iface t v), 0), rfl, Lib.hid (by omega), ?_, ?_, Lib.hid ?_, Lib.hid (notes_val HM2.out i.toNat (by omega) (HZ.out _ (Nat.le_refl _)) _), Lib.hid hst.1, Lib.hid hst.2, below_set HB2 HGN.out⟩
            · rw [HT.out, cntL_snoc, if_neg HH5.out, Int.natCast_add]
              rfl
            · rw [HT.out, hasL_snoc, decide_eq_false HH5.out, Bool.or_false]
            · rw [HT.out, hasE_snoc, HE.out, decide_eq_false HH5.out, Bool.false_or, Bool.false_and]
  · obtain ⟨wA, hwA⟩ : ∃ wA, wA = w.alloc (.cells Try.zeroCells56 56) := ⟨_, rfl⟩
    have HA0 : Hid (Below w.heap.size w wA) := Lib.hid (by rw [hwA]; exact one_below w _)
    have HGN : Hid (w.heap.size ≤ wA.heap.size) := Lib.hid HA0.out.size
    have hln : l.length ≤ 4096 := hl
    go_wp2_with (first | (at_make; refine Hid.out ?_))
    refine Lib.hid ?_
    rw [← hwA]
    obtain ⟨i0, hi0, hz0, hz1, hz2⟩ := info_parts info_meta
    refine wpList_make_full wA rfl _ _ 57 rfl wA.heap.size 55 i0 _ 3 Try.underlying57 hi0 hz0 hz1 .i64 .i64 _ _ l.length rfl rfl rfl rfl (by rw [hz2]; omega) (by simp only [maxLen]; omega) (Nat.le_refl _) ?_
    intro wB hown hgB
    have HN : Hid (NotesIs wA.heap.size (fun _ => zeroN) l.length wB) := Lib.hid (notes_own hown)
    have HB0 := Lib.hid (HA0.out.trans ((below_none hgB (Nat.le_refl _) (Below.refl wA.heap.size wA)).mono HGN.out))
    clear hown hgB hwA hi0 hz0 hz1 hz2
    go_wp2_with fail
    go_loopg [7, 8, 33] l.length (fun g v7 v8 v33 w' => ∃ (i : Int) (F : Nat → Note), v33 = .int .i64 i ∧ Hid (0 ≤ i ∧ i + g = l.length) ∧ v7 = .int .i64 (cntL (l.take i.toNat) : Int) ∧ v8 = .bool (hasL (l.take i.toNat)) ∧ Hid (hasE (l.take i.toNat) = false) ∧ Hid (NotesIs wA.heap.size F l.length w') ∧ Hid (∀ j, j < i.toNat → (h : j < l.length) → NoteOk w (l[j]'h) (F j)) ∧ Hid (∀ j, i.toNat ≤ j → F j = zeroN) ∧ Below w.heap.size w w')
    case atStart => exact ⟨0, fun _ => zeroN, rfl, Lib.hid ⟨by omega, by omega⟩, rfl, rfl, Lib.hid rfl, HN, Lib.hid (fun j h => by omega), Lib.hid (fun j _ => rfl), HB0.out⟩
    case round =>
      obtain ⟨i, F, rfl, HI, rfl, rfl, HE, HM, HK, HZ, HB⟩ := hrel
      cases gk with
      | zero =>
        have hi := HI.out
        have hge : ¬ i < (l.length : Int) := by omega
        have hall : l.take i.toNat = l := List.take_of_length_le (by omega)
        have hE := HE.out
        rw [hall] at hE
        have HEE := Lib.hid hE
        have HKF : Hid (∀ j, (h : j < l.length) → NoteOk w (l[j]'h) (F j)) := Lib.hid (fun j h => HK.out j (by omega) h)
        have hcn : cntL l ≤ 16777216 := by
          have h1 := cntL_le l (fun y hy => (HR.out y hy).2)
          have h2 := Nat.mul_le_mul hl (Nat.le_refl 4096)
          omega
        rw [hall]
        clear hall HE HK HZ hE hi
        cases hL : hasL l with
        | false =>
          go_wp2_with fail
          go_ret3
          refine ⟨HB, ?_⟩
          rw [← HRR.out, inF, if_neg (by rw [HEE.out]; decide), if_pos hL]
          exact ⟨_, _, rfl, hc, Kd.C_below HC.out HB⟩
        | true =>
          have hRV : R = (expL s.data.toList l [] []).map fun r => ((⟨r.1.toArray⟩ : ByteArray), r.2) := by rw [← HRR.out, inF, if_neg (by rw [HEE.out]; decide), if_neg (by rw [hL]; decide)]
          have HRV := Lib.hid hRV
          have HBW := Lib.hid HB
          clear hRV
          go_wp2_with (first | (at_make; refine make_any w wr wr.heap.size rfl _ _ rfl _ (cntL l) rfl rfl rfl (by omega) (Nat.le_refl _) ?_; intro w2 hO1 hg1; refine Hid.out ?_))
          refine Lib.hid ?_
          have HO1 := Lib.hid hO1
          have HB2 := below_none hg1 (Nat.le_refl _) (Below.refl wr.heap.size wr)
          clear hO1 hg1
          go_wp2_with fail
          refine calls_of_args (args' := #[.pointer (some ⟨w2.heap.size, 0, none⟩), .int .i64 ((s.size + 3 * cntL l : Nat) : Int)]) (by rw [Int.natCast_add, Int.natCast_mul]; rfl) ?_
          have HHB := Lib.hid HB
          have HHB2 := Lib.hid HB2
          have hsz2 := HB2.size
          refine (Try.Builder_Grow_fresh w2.heap.size w2.heap.size (s.size + 3 * cntL l) _ (Nat.le_refl _) (heap_alloc_new w2 _) (by show w2.heap.size ≤ (w2.heap.push _).size; simp) (by omega)).mono ?_
          rintro e w3 ⟨rfl, hbld, hb3⟩
          have hb23 : Below w2.heap.size w2 w3 := (one_below w2 _).trans hb3
          have hB3 : Below wr.heap.size wr w3 := HB2.trans (hb23.mono hsz2)
          have HBLD2 : Hid (Bld w2.heap.size w2.heap.size [] w3) := Lib.hid hbld
          have HB3 := Lib.hid hB3
          have HO3 := Lib.hid (OwnRow.below HO1.out hb23)
          have HNT := Lib.hid (HM.out.below hB3)
          clear hbld hb3 hb23 HO1 HB2 HHB2 hB3
          go_wp2_with fail
          obtain ⟨k0, hk0⟩ := index_is s (by omega)
          refine (QL.sqlx_zzIndex.calls k0 s _ (ixI s) _ hk0).mono ?_
          rintro e w4 ⟨rfl, ⟨n4, rfl⟩⟩
          have hB4 := pw_below_drewN HB3.out n4
          have H4 : InRel w wr w2.heap.size s l (expL s.data.toList l [] []) s.size s [] 0 0 [] (.slice (some ⟨wr.heap.size, 0, none⟩) 0 (cntL l)) (w3.drewN n4) := ⟨⟨by omega, by omega, by omega, Nat.le_refl _, by simp, by simp [cntL]⟩, OwnRow.below HO3.out (pw_below_drewN (Below.refl _ _) n4), Bld.lower (Bld.below HBLD2.out (pw_below_drewN (Below.refl _ _) n4)) (Nat.le_refl _), by simp, hB4⟩
          have HH4 := Lib.hid H4
          clear hk0 hB4 H4 HB3 HO3
          rw [show ixI s = ixAt s 0 by rw [ixAt, List.drop_zero]; rfl]
          go_wp2_with fail
          go_loopg [0, 15, 17, 18, 19] s.size (fun g v0 v15 v17 v18 v19 w' => ∃ (q : ByteArray) (vs : List S24) (a o : Nat) (ob : List UInt8), v0 = .string q ∧ v17 = .int .i64 (a : Int) ∧ v18 = .int .i64 (o : Int) ∧ v19 = .int .i64 (ixAt q o) ∧ Hid (InRel w wr w2.heap.size s l (expL s.data.toList l [] []) g q vs a o ob v15 w'))
          case atStart => exact ⟨s, [], 0, 0, [], rfl, rfl, rfl, rfl, HH4⟩
          case round =>
            obtain ⟨q, vs, a, o, ob, rfl, rfl, rfl, rfl, HF⟩ := hrel
            clear HH4
            obtain ⟨⟨hqg, hoq, hal, hqs, hob, hvl⟩, ho, hbd, hx, hb⟩ := HF.out
            have HO5 := Lib.hid ho
            have HBD := Lib.hid hbd
            have HB5 := Lib.hid hb
            have hca := cntL_take hl (fun y hy => (HR.out y hy).2) a
            have HQL := Lib.hid (show q.data.toList.length = q.size from Array.length_toList)
            have HVL := Lib.hid hvl
            clear HF ho hbd hb hvl
            rcases ixF_split (q.data.toList.drop o) 0 with ⟨hi, hno⟩ | ⟨pre, post, hsp, hpre, hi⟩
            · have hi' : ixAt q o = -1 := hi
              rw [hi']
              have hX : (if l.drop a = [] then some (ob ++ q.data.toList, vs) else none) = expL s.data.toList l [] [] := by
                rw [← hx, expL_end _ _ _ _ hno, List.append_assoc, List.take_append_drop]
              have HX := Lib.hid hX
              clear hx hX hi hi' hno
              go_wp2_with fail
              refine (bld_write w2.heap.size w2.heap.size ob q _ HBD.out (Nat.le_of_lt HBD.out.lt) (by omega)).mono ?_
              rintro e w6 ⟨rfl, hbd6, hb6, hk6⟩
              have HBD6 := Lib.hid hbd6
              have HB6 := Lib.hid (HB5.out.trans (hb6.mono hsz2))
              have HO6 := Lib.hid (arow_kept HO5.out hk6)
              clear hbd6 hb6 hk6
              by_cases haa : (a : Int) < (l.length : Int)
              · go_wp2_with fail
                refine (errors_new _ _).mono ?_
                rintro e w7 ⟨⟨t, y, rfl⟩, hb7⟩
                have HB7 := Lib.hid (HB6.out.trans (hb7.mono HB6.out.size))
                clear hb7
                go_wp2_with fail
                go_ret3
                refine ⟨HBW.out.trans (HB7.out.mono HBW.out.size), ?_⟩
                have hne : l.drop a ≠ [] := by
                  intro e
                  have := congrArg List.length e
                  rw [List.length_drop, List.length_nil] at this
                  omega
                rw [HRV.out, ← HX.out, if_neg hne]
                exact ⟨_, _, _, _, rfl⟩
              · go_wp2_with fail
                refine (Try.Builder_String_any_k w2.heap.size w2.heap.size (ob ++ q.data.toList) w6 (.inr (Lib.BuilderAtF.of HBD6.out)) (Nat.le_of_lt HBD6.out.lt)).mono ?_
                rintro e w7 ⟨rfl, _, hb7, hk7⟩
                have HB7 := Lib.hid (HB6.out.trans (hb7.mono hsz2))
                have HO7 := Lib.hid (arow_kept HO6.out (KeptB.others hk7 HBD6.out))
                clear hb7 hk7
                have hWR := HBW.out.trans (HB7.out.mono HBW.out.size)
                obtain ⟨A7, c7, e7, hl7, hr7⟩ := ARow.got HO7.out hWR
                rw [e7]
                have HR7 := Lib.hid hr7
                have HWR := Lib.hid hWR
                clear hr7 hWR e7
                go_wp2_with fail
                go_ret3
                refine ⟨HWR.out, ?_⟩
                rw [HRV.out, ← HX.out, if_pos (List.drop_eq_nil_of_le (by omega))]
                exact ⟨A7, c7, rfl, hl7, HR7.out⟩
            · have hi' : ixAt q o = (pre.length : Int) := by rw [ixAt, hi, Nat.zero_add]
              rw [hi']
              have hlen := congrArg List.length hsp
              rw [List.length_append, List.length_cons, List.length_drop, HQL.out] at hlen
              rw [hsp, expL_pre _ _ _ _ _ hpre] at hx
              have htk : q.data.toList.take (o + pre.length + 1) = q.data.toList.take o ++ (pre ++ [63]) := by
                have h1 : q.data.toList = (q.data.toList.take o ++ (pre ++ [63])) ++ post := by
                  conv => lhs; rw [← List.take_append_drop o q.data.toList, hsp]
                  simp
                conv => lhs; rw [h1]
                exact List.take_left' (by rw [List.length_append, List.length_take, HQL.out, List.length_append, List.length_singleton]; omega)
              have hdr : q.data.toList.drop (o + pre.length + 1) = post := by
                rw [Nat.add_assoc, ← List.drop_drop, hsp, show pre ++ 63 :: post = (pre ++ [63]) ++ post by simp]
                exact List.drop_left' (by simp)
              have HTK := Lib.hid htk
              have HDR := Lib.hid hdr
              clear htk hdr hi hi' hsp hpre
              cases gk with
              | zero => omega
              | succ g =>
                by_cases haa : (a : Int) < (l.length : Int)
                · have hal2 : a < l.length := by omega
                  have hcells := (HM.out.below HB5.out).cells a hal2
                  have hnote := HKF.out a hal2
                  have hXa := HR.out (l[a]'hal2) (List.getElem_mem _)
                  have hnx := cntL_next a hal2
                  rw [List.drop_eq_getElem_cons hal2] at hx
                  obtain ⟨x, hxe⟩ : ∃ x, x = l[a]'hal2 := ⟨_, rfl⟩
                  rw [← hxe] at hnote hXa hnx hx
                  have HXE := Lib.hid hxe
                  clear hxe
                  generalize F a = m at hcells hnote
                  obtain ⟨m0, m1, m2, mf⟩ := hcells
                  rcases hnote with ⟨h5, A2, c2, rfl, hl2, hC2⟩ | ⟨h5, u, rfl, hu⟩
                  · have hpos : 0 < x.f3.length := by
                      rcases Nat.eq_zero_or_pos x.f3.length with h0 | h0
                      · have hmem : x ∈ l := by
                          rw [HXE.out]
                          exact List.getElem_mem _
                        have h1 : hasE l = true := List.any_eq_true.2 ⟨x, hmem, by rw [decide_eq_true h5, Bool.true_and, List.isEmpty_iff]; exact List.eq_nil_of_length_eq_zero h0⟩
                        rw [HEE.out] at h1
                        cases h1
                      · exact h0
                    rw [expL_list _ _ _ _ _ h5] at hx
                    rw [if_pos h5] at hnx
                    have hat : ∀ y ∈ x.f3, atomR y := by
                      rcases hXa.1 with h | ⟨_, _, _, h⟩
                      · exact absurd h5 (by have := h.2.1; omega)
                      · exact h
                    have HX := Lib.hid hx
                    have HNX := Lib.hid hnx
                    have HAT := Lib.hid hat
                    have hx3 := hXa.2
                    obtain ⟨ad2, rfl, _⟩ := hC2.2.2 hpos
                    have HC2 := Lib.hid hC2
                    simp only [] at m0 m1 m2
                    have hzl : ¬ (x.f3.length : Int) = 0 := by omega
                    obtain ⟨W8, hW8⟩ : ∃ W8, W8 = wr.alloc (.cells #[.slice (some ad2) x.f3.length c2, .nilIface, .int .i64 (x.f3.length : Int)] 55) := ⟨_, rfl⟩
                    have HW8 := Lib.hid hW8
                    have HO8 : Hid (ARow w _ vs u15 W8) := Lib.hid (by rw [hW8]; exact OwnRow.below HO5.out (one_below wr _))
                    have HBD8 : Hid (Bld w2.heap.size w2.heap.size ob W8) := Lib.hid (by rw [hW8]; exact Bld.below HBD.out (one_below wr _))
                    have HB8 : Hid (Below _ _ W8) := Lib.hid (by rw [hW8]; exact below_alloc HB5.out _)
                    have HBOX : Hid (W8.heap[wr.heap.size]? = some (.cells #[.slice (some ad2) x.f3.length c2, .nilIface, .int .i64 (x.f3.length : Int)] 55 (0, 0))) := Lib.hid (by rw [hW8]; exact heap_alloc_new wr _)
                    obtain ⟨hex, hes⟩ := extract_head q (o + pre.length + 1) (by omega)
                    have HEX := Lib.hid hex
                    have HES := Lib.hid hes
                    clear hx hnx hat hC2 hW8 hex hes
                    go_wp2_with fail
                    rw [← HW8.out]
                    refine (bld_write w2.heap.size w2.heap.size ob _ W8 HBD8.out (Nat.le_of_lt HBD8.out.lt) (by rw [HES.out]; omega)).mono ?_
                    rintro e w9 ⟨rfl, hbd9, hb9, hk9⟩
                    rw [HEX.out] at hbd9
                    have HBD9 := Lib.hid hbd9
                    have HB9 := Lib.hid hb9
                    have HK9 := Lib.hid hk9
                    clear hbd9 hb9 hk9
                    go_wp2_with fail
                    go_loopg [21] (x.f3.length - 1) (fun g2 v21 w' => ∃ (k : Nat), v21 = .int .i64 ((k : Int) + 1) ∧ Hid (k + g2 = x.f3.length - 1) ∧ Hid (Bld w2.heap.size w2.heap.size (ob ++ q.data.toList.take (o + pre.length + 1) ++ repQ k) w') ∧ Hid (KeptB W8 w') ∧ Hid (Below w2.heap.size W8 w'))
                    case atStart => exact ⟨0, rfl, Lib.hid (by omega), Lib.hid (by rw [repQ, List.append_nil]; exact HBD9.out), HK9, HB9⟩
                    case round =>
                      obtain ⟨k, rfl, HKG, HBDk, HKk, HBk⟩ := hrel
                      have hkg := HKG.out
                      obtain ⟨b0, b1, b2⟩ := box_cells ((HKk.out _ _ _ _ HBOX.out (by decide) (by decide)).trans HBOX.out)
                      cases gk with
                      | succ g2 =>
                        have hlt2 : (k : Int) + 1 < (x.f3.length : Int) := by omega
                        clear hkg
                        go_wp2_with fail
                        refine (bld_write w2.heap.size w2.heap.size _ ⟨#[44, 32, 63]⟩ _ HBDk.out (Nat.le_of_lt HBDk.out.lt) ?_).mono ?_
                        · have := repQ_len k
                          have := HKG.out
                          have := HQL.out
                          rw [List.length_append, List.length_append, List.length_take, repQ_len]
                          show _ + 3 ≤ _
                          omega
                        rintro e w11 ⟨rfl, hbd11, hb11, hk11⟩
                        have HBD11 := Lib.hid hbd11
                        have HB11 := Lib.hid (HBk.out.trans hb11)
                        have HK11 := Lib.hid (HKk.out.trans hk11)
                        clear hbd11 hb11 hk11
                        go_wp2_with fail
                        go_roundg g2
                        case measure => omega
                        case rel => exact ⟨k + 1, rfl, Lib.hid (by have := HKG.out; omega), Lib.hid (by rw [repQ, ← List.append_assoc]; exact HBD11.out), HK11, HB11⟩
                      | zero =>
                        have hge2 : ¬ (k : Int) + 1 < (x.f3.length : Int) := by omega
                        obtain rfl : k = x.f3.length - 1 := by omega
                        have hBk := HB8.out.trans (HBk.out.mono hsz2)
                        have hWk := HBW.out.trans (hBk.mono HBW.out.size)
                        have HOk := Lib.hid (arow_kept HO8.out HKk.out)
                        have HEk := Lib.hid (list_reads (w0 := w) (Kd.C_below HC2.out hWk) HAT.out)
                        have HBk2 := Lib.hid hBk
                        clear hkg hBk hWk
                        go_wp2_with fail
                        refine (refl_append w _ _ u15 ad2 c2 _ vs x.f3 HOk.out HEk.out HBk2.out.size (by have := HVL.out; omega)).mono ?_
                        rintro e w12 ⟨v12, rfl, ho12, hb12, hg12⟩
                        have HO12 := Lib.hid ho12
                        have HB12 := Lib.hid (HBk2.out.trans hb12)
                        have HBD12 := Lib.hid (Bld.grown HBDk.out hg12 (arow_typed HOk.out))
                        clear ho12 hb12 hg12
                        obtain ⟨q2, hq2⟩ : ∃ q2, q2 = q.extract (o + pre.length + 1) q.size := ⟨_, rfl⟩
                        have hq2l : q2.data.toList = post := by rw [hq2, extract_tail, HDR.out]
                        have hq2s : q2.size = post.length := by
                          have : q2.data.toList.length = q2.size := Array.length_toList
                          rw [← this, hq2l]
                        obtain ⟨k2, hk2⟩ := index_is q2 (by omega)
                        have HK2 := Lib.hid hk2
                        have HQ2 := Lib.hid hq2
                        have HQ2L := Lib.hid hq2l
                        clear hk2 hq2 hq2l
                        go_wp2_with fail
                        have hq2e : q2.extract 0 (q.size - (o + pre.length + 1)) = q2 := by
                          apply ByteArray.ext
                          apply Array.toList_inj.1
                          rw [(extract_head q2 (q.size - (o + pre.length + 1)) (by omega)).1]
                          exact List.take_of_length_le (by rw [HQ2L.out]; omega)
                        rw [← HQ2.out, hq2e]
                        refine (QL.sqlx_zzIndex.calls k2 _ _ _ _ HK2.out).mono ?_
                        rintro e w13 ⟨rfl, ⟨n13, rfl⟩⟩
                        rw [show ixI q2 = ixAt q2 0 by rw [ixAt, List.drop_zero]; rfl]
                        go_wp2_with fail
                        go_roundg g
                        case measure => omega
                        case rel =>
                          have hrl := repQ_len (x.f3.length - 1)
                          have hql2 := HQL.out
                          refine ⟨q2, vs ++ x.f3, a + 1, 0, ob ++ q.data.toList.take (o + pre.length + 1) ++ repQ (x.f3.length - 1), rfl, rfl, rfl, rfl, Lib.hid ⟨⟨by omega, by omega, by omega, by omega, ?_, by rw [List.length_append, HNX.out, HVL.out]⟩, OwnRow.below HO12.out (pw_below_drewN (Below.refl _ _) n13), Bld.below HBD12.out (pw_below_drewN (Below.refl _ _) n13), ?_, pw_below_drewN HB12.out n13⟩⟩
                          · rw [HNX.out, List.length_append, List.length_append, List.length_take, hql2, hrl]
                            omega
                          · rw [List.drop_zero, List.take_zero, List.append_nil, HQ2L.out, HTK.out, ← HX.out]
                            simp only [List.append_assoc, List.cons_append, List.nil_append]
                  · rw [expL_val _ _ _ _ _ h5] at hx
                    rw [if_neg h5] at hnx
                    have HX := Lib.hid hx
                    have HNX := Lib.hid hnx
                    have HU := Lib.hid hu
                    have HIF := kG_if _ _ _ hu
                    simp only [] at m0 m1 m2
                    clear hx hnx hu
                    obtain ⟨k1, hk1⟩ := index_tail q (o + pre.length + 1) (by omega)
                    have HK1 := Lib.hid hk1
                    have hbase := HB5.out.size
                    clear hk1
                    have HO8 := Lib.hid (OwnRow.below HO5.out (one_below wr (.cells #[.slice none 0 0, u, .int .i64 0] 55)))
                    have HBD8 := Lib.hid (Bld.below HBD.out (one_below wr (.cells #[.slice none 0 0, u, .int .i64 0] 55)))
                    have HB8 := Lib.hid (below_alloc HB5.out (.cells #[.slice none 0 0, u, .int .i64 0] 55))
                    have HSZ : Hid ((wr.alloc (.cells #[.slice none 0 0, u, .int .i64 0] 55)).heap.size = wr.heap.size + 1) := Lib.hid (by show (wr.heap.push _).size = _; simp)
                    have hvl := HVL.out
                    have hvb : vs.length + 1 ≤ 8796093022208 := by omega
                    have HVB := Lib.hid hvb
                    clear hvl hvb
                    rcases HIF with rfl | ⟨t, v, rfl⟩
                    all_goals
                      go_wp2_with (first | ((with_reducible refine gate_builtin (b := .append) (xs := #[.tmp 117, .tmp 120]) rfl ?_); at_builtin; refine OwnRow.append (R := kG.K w) (w0 := _) _ rfl (.tmp 117) (.tmp 120) 39 20 .nilIface 1 16 rfl Try.underlying39 info_iface rfl (by decide) (by decide) u15 vs x [_] rfl (by rw [HSZ.out]; rfl) HU.out rfl (kG.K_one HU.out) HO8.out HB8.out HB8.out.size (by have := HVB.out; omega) ?_))
                      intro v1 w6 hO6 hB6 hg6 _
                      have HO6 : Hid (ARow w _ (vs ++ [x]) v1 w6) := Lib.hid hO6
                      have HB6 := Lib.hid hB6
                      have HBD6 := Lib.hid (Bld.grown HBD8.out hg6 (arow_typed HO8.out))
                      clear hO6 hB6 hg6
                      go_wp2_with fail
                      refine (QL.sqlx_zzIndex.calls k1 _ _ _ _ HK1.out).mono ?_
                      rintro e w7 ⟨rfl, ⟨n7, rfl⟩⟩
                      go_wp2_with fail
                      go_roundg g
                      case measure => omega
                      case rel =>
                        refine ⟨q, vs ++ [x], a + 1, o + pre.length + 1, ob, rfl, rfl, rfl, rfl, Lib.hid ⟨⟨by omega, by omega, by omega, hqs, by rw [HNX.out]; omega, by rw [List.length_append, List.length_singleton, HNX.out, HVL.out]⟩, OwnRow.below HO6.out (pw_below_drewN (Below.refl _ _) n7), Bld.below HBD6.out (pw_below_drewN (Below.refl _ _) n7), ?_, pw_below_drewN HB6.out n7⟩⟩
                        rw [HDR.out, HTK.out, ← HX.out]
                        simp only [List.append_assoc]
                · go_wp2_with fail
                  refine (errors_new _ _).mono ?_
                  rintro e w7 ⟨⟨t, y, rfl⟩, hb7⟩
                  have HB7 := Lib.hid (HB5.out.trans (hb7.mono HB5.out.size))
                  clear hb7
                  go_wp2_with fail
                  go_ret3
                  refine ⟨HBW.out.trans (HB7.out.mono HBW.out.size), ?_⟩
                  rw [List.drop_eq_nil_of_le (by omega), expL_none] at hx
                  rw [HRV.out, ← hx]
                  exact ⟨_, _, _, _, rfl⟩
      | succ g =>
        have hi := HI.out
        have hlt : i < (l.length : Int) := by omega
        have h0 : 0 ≤ i := hi.1
        obtain ⟨ad, u, rfl, hK, hcell0⟩ := one_cell (d := kG) rfl HC.out i h0 hlt
        have hcell := pw_cell_below HB hcell0
        have hX := atom_at l (fun x => rightR x ∧ x.f3.length ≤ 4096) HR.out i h0 hlt
        have HT := Lib.hid (take_next l i h0 hlt)
        have hget : ∀ h : i.toNat < l.length, rd_T24 l i = l[i.toNat]'h := by
          intro h
          unfold rd_T24
          rw [List.getD_eq_getElem?_getD, List.getElem?_eq_getElem h]
          rfl
        have HGET := Lib.hid hget
        have hmz := HZ.out i.toNat (Nat.le_refl _)
        have hmc := HM.out.cells i.toNat (by omega)
        rw [hmz] at hmc
        have HX := Lib.hid hX
        have HKK := Lib.hid hK
        have HIF := kG_if _ _ _ hK
        clear hX hK hget hcell0 hi
        generalize rd_T24 l i = x at HX HKK HT HGET HIF
        rcases HIF with rfl | ⟨t, v, rfl⟩
        all_goals
          go_wp2_with fail
          refine (asSlice_is x HX.out.1 _ w _ HKK.out).mono ?_
          rintro e w2 ⟨hb2, hcase⟩
          have hmc2 := (HM.out.below hb2).cells i.toNat (by omega)
          rw [hmz] at hmc2
          obtain ⟨m0, m1, m2, mf⟩ := hmc2
          simp only [zeroN] at m0 m1 m2
          have HM2 := Lib.hid (HM.out.below hb2)
          have HB2 := HB.trans (hb2.mono HB.size)
          have hcn : cntL (l.take i.toNat) ≤ 16777216 := by
            have h1 := cntL_le (l.take i.toNat) (fun y hy => (HR.out y (List.mem_of_mem_take hy)).2)
            have h2 := Nat.mul_le_mul (show (l.take i.toNat).length ≤ 4096 by rw [List.length_take]; omega) (Nat.le_refl 4096)
            omega
          have hx3 := HX.out.2
          have hg := HB.size
          clear hmc hmz hb2
          rcases hcase with ⟨h5, A2, c2, rfl, hl2, hC2⟩ | ⟨h5, rfl⟩
        · have HOK : Hid (NoteOk w x (.slice A2 x.f3.length c2, .nilIface, x.f3.length)) := Lib.hid (.inl ⟨h5, A2, c2, rfl, hl2, hC2⟩)
          have HH5 := Lib.hid h5
          clear hl2 hC2 h5
          by_cases hz0 : (x.f3.length : Int) = 0
          · go_wp2_with fail
            refine (errors_new _ _).mono ?_
            rintro e w3 ⟨⟨t, y, rfl⟩, hb3⟩
            have HB3 := Lib.hid hb3
            clear hb3
            go_wp2_with fail
            go_ret3
            have hb4 := below_set (j := i.toNat * 3) (v := .slice A2 x.f3.length c2) (below_set (j := i.toNat * 3 + 2) (v := .int .i64 0) HB2 HGN.out) HGN.out
            refine ⟨hb4.trans (HB3.out.mono hb4.size), ?_⟩
            have hmem : x ∈ l := by
              rw [HGET.out (by omega)]
              exact List.getElem_mem _
            have hE : hasE l = true := List.any_eq_true.2 ⟨x, hmem, by rw [decide_eq_true HH5.out, Bool.true_and, List.isEmpty_iff]; exact List.eq_nil_of_length_eq_zero (by omega)⟩
            rw [← HRR.out, inF, if_pos hE]
            exact ⟨_, _, _, _, rfl⟩
          · go_wp2_with fail
            go_roundg g
            case measure => omega
            case rel =>
              have hi := HI.out
              have hst := notes_step (m := (.slice A2 x.f3.length c2, .nilIface, x.f3.length)) (by omega) HK.out HZ.out (fun h => by rw [← HGET.out h]; exact HOK.out)
              refine ⟨i + 1, setN F i.toNat (.slice A2 x.f3.length c2, .nilIface, x.f3.length), rfl, Lib.hid (by omega), ?_, ?_, Lib.hid ?_, Lib.hid (notes_list HM2.out i.toNat (by omega) (HZ.out _ (Nat.le_refl _)) _ _), Lib.hid hst.1, Lib.hid hst.2, below_set (below_set HB2 HGN.out) HGN.out⟩
              · rw [HT.out, cntL_snoc, if_pos HH5.out, Int.natCast_add]
              · rw [HT.out, hasL_snoc, decide_eq_true HH5.out, Bool.or_true]
              · rw [HT.out, hasE_snoc, HE.out, decide_eq_true HH5.out, Bool.false_or, Bool.true_and]
                cases hx : x.f3 with
                | nil =>
                  rw [hx] at hz0
                  exact absurd rfl hz0
                | cons y t => rfl
        · have HOK : Hid (NoteOk w x (.slice none 0 0, .nilIface, 0)) := Lib.hid (.inr ⟨h5, _, rfl, HKK.out⟩)
          have HH5 := Lib.hid h5
          clear h5
          go_wp2_with fail
          go_roundg g
          case measure => omega
          case rel =>
            have hi := HI.out
            have hst := notes_step (m := (.slice none 0 0, .nilIface, 0)) (by omega) HK.out HZ.out (fun h => by rw [← HGET.out h]; exact HOK.out)
            refine ⟨i + 1, setN F i.toNat (.slice none 0 0, .nilIface, 0), rfl, Lib.hid (by omega), ?_, ?_, Lib.hid ?_, Lib.hid (notes_val HM2.out i.toNat (by omega) (HZ.out _ (Nat.le_refl _)) _), Lib.hid hst.1, Lib.hid hst.2, below_set HB2 HGN.out⟩
            · rw [HT.out, cntL_snoc, if_neg HH5.out, Int.natCast_add]
              rfl
            · rw [HT.out, hasL_snoc, decide_eq_false HH5.out, Bool.or_false]
            · rw [HT.out, hasE_snoc, HE.out, decide_eq_false HH5.out, Bool.false_or, Bool.false_and]
        · have HOK : Hid (NoteOk w x (.slice A2 x.f3.length c2, .nilIface, x.f3.length)) := Lib.hid (.inl ⟨h5, A2, c2, rfl, hl2, hC2⟩)
          have HH5 := Lib.hid h5
          clear hl2 hC2 h5
          by_cases hz0 : (x.f3.length : Int) = 0
          · go_wp2_with fail
            refine (errors_new _ _).mono ?_
            rintro e w3 ⟨⟨t, y, rfl⟩, hb3⟩
            have HB3 := Lib.hid hb3
            clear hb3
            go_wp2_with fail
            go_ret3
            have hb4 := below_set (j := i.toNat * 3) (v := .slice A2 x.f3.length c2) (below_set (j := i.toNat * 3 + 2) (v := .int .i64 0) HB2 HGN.out) HGN.out
            refine ⟨hb4.trans (HB3.out.mono hb4.size), ?_⟩
            have hmem : x ∈ l := by
              rw [HGET.out (by omega)]
              exact List.getElem_mem _
            have hE : hasE l = true := List.any_eq_true.2 ⟨x, hmem, by rw [decide_eq_true HH5.out, Bool.true_and, List.isEmpty_iff]; exact List.eq_nil_of_length_eq_zero (by omega)⟩
            rw [← HRR.out, inF, if_pos hE]
            exact ⟨_, _, _, _, rfl⟩
          · go_wp2_with fail
            go_roundg g
            case measure => omega
            case rel =>
              have hi := HI.out
              have hst := notes_step (m := (.slice A2 x.f3.length c2, .nilIface, x.f3.length)) (by omega) HK.out HZ.out (fun h => by rw [← HGET.out h]; exact HOK.out)
              refine ⟨i + 1, setN F i.toNat (.slice A2 x.f3.length c2, .nilIface, x.f3.length), rfl, Lib.hid (by omega), ?_, ?_, Lib.hid ?_, Lib.hid (notes_list HM2.out i.toNat (by omega) (HZ.out _ (Nat.le_refl _)) _ _), Lib.hid hst.1, Lib.hid hst.2, below_set (below_set HB2 HGN.out) HGN.out⟩
              · rw [HT.out, cntL_snoc, if_pos HH5.out, Int.natCast_add]
              · rw [HT.out, hasL_snoc, decide_eq_true HH5.out, Bool.or_true]
              · rw [HT.out, hasE_snoc, HE.out, decide_eq_true HH5.out, Bool.false_or, Bool.true_and]
                cases hx : x.f3 with
                | nil =>
                  rw [hx] at hz0
                  exact absurd rfl hz0
                | cons y t => rfl
        · have HOK : Hid (NoteOk w x (.slice none 0 0, (.iface t v), 0)) := Lib.hid (.inr ⟨h5, _, rfl, HKK.out⟩)
          have HH5 := Lib.hid h5
          clear h5
          go_wp2_with fail
          go_roundg g
          case measure => omega
          case rel =>
            have hi := HI.out
            have hst := notes_step (m := (.slice none 0 0, (.iface t v), 0)) (by omega) HK.out HZ.out (fun h => by rw [← HGET.out h]; exact HOK.out)
            refine ⟨i + 1, setN F i.toNat (.slice none 0 0, (.iface t v), 0), rfl, Lib.hid (by omega), ?_, ?_, Lib.hid ?_, Lib.hid (notes_val HM2.out i.toNat (by omega) (HZ.out _ (Nat.le_refl _)) _), Lib.hid hst.1, Lib.hid hst.2, below_set HB2 HGN.out⟩
            · rw [HT.out, cntL_snoc, if_neg HH5.out, Int.natCast_add]
              rfl
            · rw [HT.out, hasL_snoc, decide_eq_false HH5.out, Bool.or_false]
            · rw [HT.out, hasE_snoc, HE.out, decide_eq_false HH5.out, Bool.false_or, Bool.false_and]
end Go.Proofs.Ytmiggjncmeomlaa.H

/-
  CONTRACTS: a map from names to interface values (as goOf makes them): made, looked up, stored; and impl's mapOf of right arguments with different names.
-/
import Derived.Test.YtlclbfhnllknkaaHValOf
import Derived.Maps.OwnSet
namespace Go.Proofs.Ytlclbfhnllknkaa.H
open Go.RowKit Go.Proofs.YtlclbfhnllknkaaW.PrintWords Go.Proofs.YtlclbfhnllknkaaW.PrintLast Go.Proofs.YtlclbfhnllknkaaW.PrintMore Go.Proofs.Ytlclbfhnllknkaa.QE
open Go.Maps (Keyed)
set_option linter.unusedVariables false
set_option linter.unusedSimpArgs false

/-- An element as it lies, held. -/
def rdv (v : Value) : Option (DataW Value × List MemPlace) := some (.held v, [])
def keyL (s : ByteArray) : Lit := .string s.data.toList
theorem keyL_inj {s t : ByteArray} (h : keyL s = keyL t) : s = t := by
  unfold keyL at h
  injection h with h
  exact ByteArray.ext (Array.toList_inj.1 h)
theorem mkeyed : Keyed Try.prog 9 := Maps.string_keyed Try.underlying9
theorem key_at (s : ByteArray) (h : s.size ≤ maxLen) : keyOf Try.prog 9 (.string s) = some (keyL s) := WideMaps.keyOf_string_mk Try.underlying9 h
theorem key_lit (s : ByteArray) (h : s.size ≤ maxLen) : WideAt.IsKeyLit (keyL s) := mkeyed.key (key_at s h)
theorem zero_iface (w : World) : (zeroValue 20).run Try.prog w = .ok .nilIface w := by
  obtain ⟨i, hi, hz⟩ := Option.map_eq_some_iff.1 (show (Try.prog.info? 20).map (·.zero) = some (some .nilIface) by kernel_rfl)
  simp [zeroValue, typeInfo, hi, hz, Result.andThen]
def mz : DataW Value := .held .nilIface
/-- Block b of w is a map that has these arguments, each as goOf made it (in blocks that are ok), and no other names. -/
structure MapIs (ok : Nat → Prop) (w : World) (b : Nat) (l : List S41) : Prop where
  own : ∃ D n, w.ownsMap Try.prog 9 rdv b n D ∧ n ≤ l.length ∧ (∀ x ∈ l, ∃ u, D.atKey (keyL x.f0) mz = .held u ∧ Maps.has D (keyL x.f0) = true ∧ kG.M w 0 ok x.f1 [u]) ∧ ∀ s, (∀ x ∈ l, x.f0 ≠ s) → Maps.has D (keyL s) = false
theorem MapIs.made (ok : Nat → Prop) (w : World) : MapIs ok (w.alloc (.map #[] 0)) w.heap.size [] :=
  ⟨_, 0, World.ownsMap_made w _ _ _, Nat.le_refl _, fun x hx => (by cases hx), fun s _ => rfl⟩
theorem MapIs.lt {ok : Nat → Prop} {w : World} {b : Nat} {l : List S41} (h : MapIs ok w b l) : b < w.heap.size := by
  obtain ⟨D, n, ho, _⟩ := h
  exact ho.lt
theorem MapIs.mono {ok ok' : Nat → Prop} {w : World} {b : Nat} {l : List S41} (h : MapIs ok w b l) (hk : ∀ k, ok k → k < w.heap.size → ok' k) : MapIs ok' w b l := by
  obtain ⟨D, n, ho, hn, hx, hz⟩ := h
  refine ⟨D, n, ho, hn, fun x hl => ?_, hz⟩
  obtain ⟨u, h1, h2, h3⟩ := hx x hl
  exact ⟨u, h1, h2, kG.M_mono (fun k hq => hk k hq.1 hq.2.2.1) (kG.M_bound h3)⟩
theorem MapIs.move {ok : Nat → Prop} {w w' : World} {b : Nat} {l : List S41} (h : MapIs ok w b l) (hb : w'.heap[b]? = w.heap[b]?) (hm : ∀ k, ok k → k < w.heap.size → w'.heap[k]? = w.heap[k]?) : MapIs ok w' b l := by
  obtain ⟨D, n, ho, hn, hx, hz⟩ := h
  have hlt := ho.lt
  obtain ⟨es, clock, he, F, hs, hD⟩ := ho
  refine ⟨D, n, ⟨es, clock, hb.trans he, F, hs, hD⟩, hn, fun x hl => ?_, hz⟩
  obtain ⟨u, h1, h2, h3⟩ := hx x hl
  exact ⟨u, h1, h2, Kd.M_step h3 (fun k hk hlt => hm k hk hlt)⟩
theorem MapIs.step {ok : Nat → Prop} {w w' : World} {b : Nat} {l : List S41} (h : MapIs ok w b l) (hm : ∀ k, k < w.heap.size → w'.heap[k]? = w.heap[k]?) : MapIs ok w' b l :=
  h.move (hm b h.lt) (fun k _ hk => hm k hk)
theorem MapIs.below {ok : Nat → Prop} {w w' : World} {b : Nat} {l : List S41} (h : MapIs ok w b l) (hb : Below w.heap.size w w') : MapIs ok w' b l := h.step (fun k hk => hb.block k hk)
/-- A row has grown, none of the map's. -/
theorem MapIs.grown {ok : Nat → Prop} {w w' : World} {b : Nat} {l : List S41} (h : MapIs ok w b l) {row : Option Nat} (hg : w.grownBy w' row) (hb : some b ≠ row) (hok : ∀ k, ok k → some k ≠ row) : MapIs ok w' b l :=
  h.move (hg.block b h.lt hb) (fun k hk hlt => hg.block k hlt (hok k hk))
/-- A map's block is no row. -/
theorem MapIs.no_row {ok : Nat → Prop} {w : World} {b : Nat} {l : List S41} (h : MapIs ok w b l) {B : Nat} {e : TypeId} {k : Nat} {v : Value} {n : Nat} {xs : List Value} (ho : w.ownsRow B e k v n xs) : some b ≠ v.ownBlock := by
  obtain ⟨D, m, ⟨es, clock, hb, _⟩, _⟩ := h
  rcases ho.2 with ⟨rfl, _⟩ | ⟨g, cap, cur, rfl, _, hg, _⟩
  · simp [Value.ownBlock]
  · intro he
    have : b = g := by simpa [Value.ownBlock] using he
    subst this
    rw [hg] at hb
    cases hb
theorem look_hit {ok : Nat → Prop} {w : World} {b : Nat} {l : List S41} (h : MapIs ok w b l) (x : S41) (hx : x ∈ l) (hs : x.f0.size ≤ maxLen) :
    ∃ u, (Instr.lookup 42 (.map (some b)) (.string x.f0) true).run Try.prog w = .ok (.tuple #[u, .bool true]) w ∧ kG.K w x.f1 [u] := by
  obtain ⟨D, n, ho, hn, hl, hz⟩ := h
  obtain ⟨u, h1, h2, h3⟩ := hl x hx
  obtain ⟨v, ps, hrun, hv⟩ := ho.look_ok mkeyed Try.underlying42 (zero_iface w) (zd := mz) (zp := []) rfl (key_at x.f0 hs)
  rw [h1] at hv
  have e : v = u := by
    simp only [rdv, Option.some.injEq, Prod.mk.injEq, DataW.held.injEq] at hv
    exact hv.1
  subst e
  rw [h2] at hrun
  exact ⟨v, hrun, kG.K_of_M h3⟩
theorem look_miss {ok : Nat → Prop} {w : World} {b : Nat} {l : List S41} (h : MapIs ok w b l) (s : ByteArray) (hx : ∀ x ∈ l, x.f0 ≠ s) (hs : s.size ≤ maxLen) :
    (Instr.lookup 42 (.map (some b)) (.string s) true).run Try.prog w = .ok (.tuple #[.nilIface, .bool false]) w := by
  obtain ⟨D, n, ho, hn, hl, hz⟩ := h
  obtain ⟨v, ps, hrun, hv⟩ := ho.look_ok mkeyed Try.underlying42 (zero_iface w) (zd := mz) (zp := []) rfl (key_at s hs)
  rw [Maps.atKey_of_not_has (hz s hx)] at hv
  have e : v = .nilIface := by
    simp only [rdv, mz, Option.some.injEq, Prod.mk.injEq, DataW.held.injEq] at hv
    exact hv.1
  subst e
  rw [hz s hx] at hrun
  exact hrun
theorem map_store {ok : Nat → Prop} {w : World} {b : Nat} {l : List S41} (h : MapIs ok w b l) (x : S41) (u : Value) (hx : ∀ y ∈ l, y.f0 ≠ x.f0) (hs : x.f0.size ≤ maxLen) (hn : l.length < maxLen) (hu : kG.M w 0 ok x.f1 [u]) :
    ∃ w', (Instr.mapUpdate 42 (.map (some b)) (.string x.f0) u).run Try.prog w = .ok () w' ∧ MapIs ok w' b (l ++ [x]) ∧ w.grownBy w' (some b) := by
  obtain ⟨D, n, ho, hle, hl, hz⟩ := h
  obtain ⟨w', hrun, ho2, hg⟩ := ho.update mkeyed Try.underlying42 (Nat.lt_of_le_of_lt hle hn) (key_at x.f0 hs) (show rdv u = some (.held u, []) from rfl)
  have hkeep : ∀ y v, kG.M w 0 ok y [v] → kG.M w' 0 ok y [v] := fun y v hM => by
    refine kG.M_mono (fun _ hk => hk.1) (kG.M_move (fun k hk => ?_) (kG.M_bound hM))
    obtain ⟨_, _, hlt, q, _, cells, hc⟩ := hk
    refine hg.block k hlt (fun e => ?_)
    injection e with e
    subst e
    obtain ⟨es, clock, hb, _⟩ := ho
    rw [hc] at hb
    cases hb
  have hM := ho.isMap
  refine ⟨w', hrun, ⟨_, _, ho2, by simp; omega, fun y hy => ?_, fun s hsx => ?_⟩, hg⟩
  · rcases List.mem_append.1 hy with hy | hy
    · obtain ⟨v, h1, h2, h3⟩ := hl y hy
      have hne : keyL y.f0 ≠ keyL x.f0 := fun e => hx y hy (keyL_inj e)
      exact ⟨v, (Maps.atKey_put_other hne _ _).trans h1, (Maps.has_put_other hne _).trans h2, hkeep _ _ h3⟩
    · obtain rfl := List.mem_singleton.1 hy
      exact ⟨u, Maps.atKey_put_same hM (key_lit _ hs) _ _, Maps.has_put_same hM (key_lit _ hs) _, hkeep _ _ hu⟩
  · have hne : keyL s ≠ keyL x.f0 := fun e => hsx x (by simp) (keyL_inj e).symm
    exact (Maps.has_put_other hne _).trans (hz s (fun y hy => hsx y (by simp [hy])))
/-- The same of a later world in which the map's block stands. -/
theorem look_hit_at {ok : Nat → Prop} {w w' : World} {b : Nat} {l : List S41} (h : MapIs ok w b l) (hb : w'.heap[b]? = w.heap[b]?) (x : S41) (hx : x ∈ l) (hs : x.f0.size ≤ maxLen) :
    ∃ u, (Instr.lookup 42 (.map (some b)) (.string x.f0) true).run Try.prog w' = .ok (.tuple #[u, .bool true]) w' ∧ kG.K w x.f1 [u] := by
  obtain ⟨D, n, ho, hn, hl, hz⟩ := h
  obtain ⟨es, clock, he, F, hss, hD⟩ := ho
  have ho' : w'.ownsMap Try.prog 9 rdv b n D := ⟨es, clock, hb.trans he, F, hss, hD⟩
  obtain ⟨u, h1, h2, h3⟩ := hl x hx
  obtain ⟨v, ps, hrun, hv⟩ := ho'.look_ok mkeyed Try.underlying42 (zero_iface w') (zd := mz) (zp := []) rfl (key_at x.f0 hs)
  rw [h1] at hv
  have e : v = u := by
    simp only [rdv, Option.some.injEq, Prod.mk.injEq, DataW.held.injEq] at hv
    exact hv.1
  subst e
  rw [h2] at hrun
  exact ⟨v, hrun, kG.K_of_M h3⟩
theorem look_miss_at {ok : Nat → Prop} {w w' : World} {b : Nat} {l : List S41} (h : MapIs ok w b l) (hb : w'.heap[b]? = w.heap[b]?) (s : ByteArray) (hx : ∀ x ∈ l, x.f0 ≠ s) (hs : s.size ≤ maxLen) :
    (Instr.lookup 42 (.map (some b)) (.string s) true).run Try.prog w' = .ok (.tuple #[.nilIface, .bool false]) w' := by
  obtain ⟨D, n, ho, hn, hl, hz⟩ := h
  obtain ⟨es, clock, he, F, hss, hD⟩ := ho
  have ho' : w'.ownsMap Try.prog 9 rdv b n D := ⟨es, clock, hb.trans he, F, hss, hD⟩
  obtain ⟨v, ps, hrun, hv⟩ := ho'.look_ok mkeyed Try.underlying42 (zero_iface w') (zd := mz) (zp := []) rfl (key_at s hs)
  rw [Maps.atKey_of_not_has (hz s hx)] at hv
  have e : v = .nilIface := by
    simp only [rdv, mz, Option.some.injEq, Prod.mk.injEq, DataW.held.injEq] at hv
    exact hv.1
  subst e
  rw [hz s hx] at hrun
  exact hrun
section
variable {ops : Array Oper} {rest : List Oper} {o : Oper} {a : Act} {Q : Exit → Act → World → Prop}
theorem wp_look_miss {ok : Nat → Prop} (w : World) (hg : o.guard = none) (m x : Operand) (hop : o.op = Op.lookup 42 m x true) (b : Nat) (l : List S41) (s : ByteArray) (hm : a.eval m = .map (some b)) (hx : a.eval x = .string s)
    (h : MapIs ok w b l) (hno : ∀ x ∈ l, x.f0 ≠ s) (hs : s.size ≤ maxLen) (hK : wpList Try.prog ops Q rest (a.put o.dst (.tuple #[.nilIface, .bool false])) w) : wpList Try.prog ops Q (o :: rest) a w := by
  refine wpList_plain hg fun K' hK' => ?_
  have hrun := look_miss h s hno hs
  unfold Oper.wp
  simp [execOp, hop, hm, hx, hrun, Result.andThen]
  exact hK' _ _ hK
theorem wp_look_hit {ok : Nat → Prop} (w : World) (hg : o.guard = none) (m x : Operand) (hop : o.op = Op.lookup 42 m x true) (b : Nat) (l : List S41) (y : S41) (s : ByteArray) (hm : a.eval m = .map (some b)) (hx : a.eval x = .string s)
    (h : MapIs ok w b l) (hy : y ∈ l) (hys : y.f0 = s) (hs : s.size ≤ maxLen) (hK : ∀ u, kG.K w y.f1 [u] → wpList Try.prog ops Q rest (a.put o.dst (.tuple #[u, .bool true])) w) : wpList Try.prog ops Q (o :: rest) a w := by
  subst hys
  refine wpList_plain hg fun K' hK' => ?_
  obtain ⟨u, hrun, hu⟩ := look_hit h y hy hs
  unfold Oper.wp
  simp [execOp, hop, hm, hx, hrun, Result.andThen]
  exact hK' _ _ (hK u hu)
theorem wp_miss_at {ok : Nat → Prop} (w0 w : World) (hg : o.guard = none) (m x : Operand) (hop : o.op = Op.lookup 42 m x true) (b : Nat) (l : List S41) (s : ByteArray) (hm : a.eval m = .map (some b)) (hx : a.eval x = .string s)
    (h : MapIs ok w0 b l) (hb : w.heap[b]? = w0.heap[b]?) (hno : ∀ x ∈ l, x.f0 ≠ s) (hs : s.size ≤ maxLen) (hK : wpList Try.prog ops Q rest (a.put o.dst (.tuple #[.nilIface, .bool false])) w) : wpList Try.prog ops Q (o :: rest) a w := by
  refine wpList_plain hg fun K' hK' => ?_
  have hrun := look_miss_at h hb s hno hs
  unfold Oper.wp
  simp [execOp, hop, hm, hx, hrun, Result.andThen]
  exact hK' _ _ hK
theorem wp_hit_at {ok : Nat → Prop} (w0 w : World) (hg : o.guard = none) (m x : Operand) (hop : o.op = Op.lookup 42 m x true) (b : Nat) (l : List S41) (y : S41) (s : ByteArray) (hm : a.eval m = .map (some b)) (hx : a.eval x = .string s)
    (h : MapIs ok w0 b l) (hb : w.heap[b]? = w0.heap[b]?) (hy : y ∈ l) (hys : y.f0 = s) (hs : s.size ≤ maxLen) (hK : ∀ u, kG.K w0 y.f1 [u] → wpList Try.prog ops Q rest (a.put o.dst (.tuple #[u, .bool true])) w) : wpList Try.prog ops Q (o :: rest) a w := by
  subst hys
  refine wpList_plain hg fun K' hK' => ?_
  obtain ⟨u, hrun, hu⟩ := look_hit_at h hb y hy hs
  unfold Oper.wp
  simp [execOp, hop, hm, hx, hrun, Result.andThen]
  exact hK' _ _ (hK u hu)
theorem wp_store {ok : Nat → Prop} (w : World) (hg : o.guard = none) (m x v : Operand) (hop : o.op = Op.mapUpdate 42 m x v) (b : Nat) (l : List S41) (y : S41) (u : Value) (hm : a.eval m = .map (some b)) (hx : a.eval x = .string y.f0) (hv : a.eval v = u)
    (h : MapIs ok w b l) (hno : ∀ x ∈ l, x.f0 ≠ y.f0) (hs : y.f0.size ≤ maxLen) (hn : l.length < maxLen) (hu : kG.M w 0 ok y.f1 [u])
    (hK : ∀ w', MapIs ok w' b (l ++ [y]) → w.grownBy w' (some b) → wpList Try.prog ops Q rest (a.put o.dst undef) w') : wpList Try.prog ops Q (o :: rest) a w := by
  refine wpList_plain hg fun K' hK' => ?_
  obtain ⟨w', hrun, h1, h2⟩ := map_store h y u hno hs hn hu
  unfold Oper.wp
  simp [execOp, hop, hm, hx, hv, hrun, Result.andThen]
  exact hK' _ _ (hK w' h1 h2)
end
/-- Arguments that mapOf takes: right values, names that are no longer than a text may be, and all different. -/
def ArgsOk (l : List S41) : Prop := l.length ≤ 1048576 ∧ (∀ x ∈ l, rightR x.f1 ∧ x.f1.f3.length ≤ 1048576 ∧ x.f0.size ≤ 1048576) ∧ l.Pairwise (fun a b => a.f0 ≠ b.f0)
theorem args_at (l : List S41) (P : S41 → Prop) (h : ∀ x ∈ l, P x) (i : Int) (h0 : 0 ≤ i) (h1 : i < l.length) : P (rd_T41 l i) := by
  unfold rd_T41
  rw [List.getD_eq_getElem?_getD, List.getElem?_eq_getElem (show i.toNat < l.length by omega)]
  exact h _ (List.getElem_mem _)
theorem args_next (l : List S41) (i : Int) (h0 : 0 ≤ i) (h1 : i < l.length) : l.take (i + 1).toNat = l.take i.toNat ++ [rd_T41 l i] := by
  unfold rd_T41
  rw [show (i + 1).toNat = i.toNat + 1 by omega, List.take_succ_eq_append_getElem (by omega), List.getD_eq_getElem?_getD, List.getElem?_eq_getElem (show i.toNat < l.length by omega)]
  rfl
theorem args_new (l : List S41) (hd : l.Pairwise (fun a b => a.f0 ≠ b.f0)) (i : Int) (h0 : 0 ≤ i) (h1 : i < l.length) : ∀ x ∈ l.take i.toNat, x.f0 ≠ (rd_T41 l i).f0 := by
  have hlt : i.toNat < l.length := by omega
  have e : rd_T41 l i = l[i.toNat] := by
    unfold rd_T41
    rw [List.getD_eq_getElem?_getD, List.getElem?_eq_getElem hlt]
    rfl
  rw [e]
  intro x hx
  obtain ⟨j, hj, rfl⟩ := List.mem_iff_getElem.1 hx
  rw [List.length_take] at hj
  rw [List.getElem_take]
  exact List.pairwise_iff_getElem.1 hd j i.toNat (by omega) hlt (by omega)
def MapPost (l : List S41) (w : World) (e : Ending) (w' : World) : Prop := ∃ b, e = .returned (.tuple #[.map (some b), .bool true]) ∧ MapIs (fun k => w.heap.size ≤ k) w' b l ∧ w.heap.size ≤ b ∧ Below w.heap.size w w'
set_option maxHeartbeats 3200000 in
set_option maxRecDepth 100000 in
theorem mapOf_right (l : List S41) (h : ArgsOk l) (A : Option Addr) (c : Nat) (w : World) (hC : k41.C w A l.length l) :
    Calls Try.prog 18 #[.slice A l.length c] w (MapPost l w) := by
  have HC := Lib.hid hC
  have HL := Lib.hid h.1
  have HR := Lib.hid h.2.1
  have HD := Lib.hid h.2.2
  clear h hC
  have hu := Try.underlying41
  have hu2 := Try.underlying37
  have hmm := @run_makeMap Try.prog
  go_enter Try.func18, Try.ntmps18
  go_wp2_with fail
  go_loopg [14] l.length (fun g v14 w' => ∃ (i : Int), v14 = .int .i64 i ∧ Hid (0 ≤ i ∧ i + g = l.length) ∧ Hid (MapIs (fun k => w.heap.size ≤ k) w' w.heap.size (l.take i.toNat)) ∧ Below w.heap.size w w')
  case atStart => exact ⟨0, rfl, Lib.hid ⟨by omega, by omega⟩, Lib.hid (MapIs.made _ w), one_below _ _⟩
  case round =>
    obtain ⟨i, rfl, HI, HO, HB⟩ := hrel
    have hi := HI.out
    cases gk with
    | zero =>
      have hge : ¬ i < (l.length : Int) := by omega
      have hall : l.take i.toNat = l := List.take_of_length_le (by omega)
      have HO2 := HO.out
      rw [hall] at HO2
      have HF := Lib.hid HO2
      clear hi hall HO2
      go_wp2_with fail
      go_ret2
      exact ⟨_, rfl, HF.out, Nat.le_refl _, HB⟩
    | succ g =>
      have hlt : i < (l.length : Int) := by omega
      have h0 : 0 ≤ i := hi.1
      obtain ⟨ad, B3, b3, rfl, q0, q1, q2, q3, q4, ql, qC⟩ := at_T41 (Kd.C_below HC.out HB) i h0 hlt
      have HX := Lib.hid (args_at l _ HR.out i h0 hlt)
      have HT := Lib.hid (args_next l i h0 hlt)
      have HN := Lib.hid (args_new l HD.out i h0 hlt)
      have HQ := Lib.hid qC
      have HQL := Lib.hid ql
      have HLT := Lib.hid HB.size
      clear qC ql hi
      generalize rd_T41 l i = x at q0 q1 q2 q3 q4 HX HQ HQL HT HN
      go_wp2_with fail
      refine (right_gives x.f1 HX.out.1 HX.out.2.1 B3 b3 _ (Kd.C_below HQ.out (one_below _ _)) HQL.out).mono ?_
      rintro e w2 ⟨u, rfl, hM, hb⟩
      have HB2 := Lib.hid ((below_alloc HB _).trans (hb.mono (below_alloc HB _).size))
      have HO2 := Lib.hid ((HO.out.below (one_below _ _)).below hb)
      have HWR := (below_alloc HB (.cells #[.string x.f0, .int .i64 x.f1.f0, .int .i64 x.f1.f1, .string x.f1.f2, .slice B3 x.f1.f3.length b3] 41)).size
      have HM2 := Lib.hid (kG.M_lower (base' := 0) (Nat.zero_le _) (kG.M_mono (ok' := fun k => w.heap.size ≤ k) (fun k hk => Nat.le_trans HWR hk.2.1) (kG.M_bound hM)))
      have hrow : w2.heap[wr.heap.size]? = some (.cells #[.string x.f0, .int .i64 x.f1.f0, .int .i64 x.f1.f1, .string x.f1.f2, .slice B3 x.f1.f3.length b3] 41) := by
        rw [hb.block wr.heap.size (by show wr.heap.size < (wr.heap.push _).size; simp)]
        exact heap_alloc_new wr _
      have c0 := cell_of_row w2 wr.heap.size 0 _ _ _ hrow
      simp only [List.getElem?_toArray, List.getElem?_cons_zero, List.getElem?_cons_succ] at c0
      have hs : x.f0.size ≤ maxLen := Nat.le_trans HX.out.2.2 (by simp only [maxLen]; omega)
      have HS := Lib.hid hs
      have HIF := Lib.hid (kG_if _ _ _ (kG.K_of_M hM))
      clear hM hb hrow hs HWR
      rcases HIF.out with rfl | ⟨t, v, rfl⟩
      all_goals
        go_wp2_with (first | (at_lookup; refine wp_look_miss w2 rfl (.tmp 25) (.tmp 27) rfl w.heap.size (l.take i.toNat) x.f0 rfl rfl HO2.out HN.out HS.out ?_) | (at_mapUpdate; refine wp_store w2 rfl (.tmp 36) (.tmp 38) (.tmp 39) rfl w.heap.size (l.take i.toNat) x _ rfl rfl rfl HO2.out HN.out HS.out (by rw [List.length_take]; have := HL.out; simp only [maxLen]; omega) HM2.out ?_))
        intro w3 hM3 hg3
        have HM3 := Lib.hid (by rw [← HT.out] at hM3; exact hM3)
        have HB3 := Lib.hid (HB2.out.grown hg3 HB2.out.size (fun k hk => by injection hk with hk; omega))
        clear hM3 hg3
        have hl := HL.out
        go_wp2_with fail
        go_roundg g
        case measure => omega
        case rel => exact ⟨i + 1, rfl, Lib.hid (by have := HI.out; omega), HM3.out, HB3.out⟩
end Go.Proofs.Ytlclbfhnllknkaa.H

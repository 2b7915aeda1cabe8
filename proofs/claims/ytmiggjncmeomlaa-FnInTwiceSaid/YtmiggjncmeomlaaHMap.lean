/-
  CONTRACTS: a map from names to interface values (as goOf makes them): made, looked up, stored.
-/
import Derived.Test.YtmiggjncmeomlaaHValOf
import Derived.Maps.OwnSet
namespace Go.Proofs.Ytmiggjncmeomlaa.H
open Go.RowKit Go.Proofs.YtmiggjncmeomlaaW.PrintWords Go.Proofs.YtmiggjncmeomlaaW.PrintLast Go.Proofs.YtmiggjncmeomlaaW.PrintMore Go.Proofs.Ytmiggjncmeomlaa.QS
open Go.Maps (Keyed)
set_option linter.unusedVariables false
set_option linter.unusedSimpArgs false

/-- A name with a value. -/
structure ArgX where
  f0 : ByteArray
  f1 : S24
/-- An element as it lies, held. -/
def rdv (v : Value) : Option (DataW Value × List MemPlace) := some (.held v, [])
def keyL (s : ByteArray) : Lit := .string s.data.toList
theorem keyL_inj {s t : ByteArray} (h : keyL s = keyL t) : s = t := by
  unfold keyL at h
  injection h with h
  exact ByteArray.ext (Array.toList_inj.1 h)
theorem mkeyed : Keyed Try.prog 9 := Maps.string_keyed Try.underlying9
theorem key_at (s : ByteArray) (h : s.size ≤ maxLen) : keyOf Try.prog 9 (.string s) = some (keyL s) := WideMaps.keyOf_string_mk Try.underlying9 h
theorem key_lit (s : ByteArray) (h : s.size ≤ maxLen) : WideAt.IsKeyLit (keyL s) := mkeyed.key (key_at s h)
theorem zero_iface (w : World) : (zeroValue 20).run Try.prog w = .ok .nilIface w := by
  obtain ⟨i, hi, hz⟩ := Option.map_eq_some_iff.1 (show (Try.prog.info? 20).map (·.zero) = some (some .nilIface) by kernel_rfl)
  simp [zeroValue, typeInfo, hi, hz, Result.andThen]
def mz : DataW Value := .held .nilIface
/-- Block b of w is a map that has these arguments, each as goOf made it (in blocks that are ok), and no other names. -/
structure MapIs (ok : Nat → Prop) (w : World) (b : Nat) (l : List ArgX) : Prop where
  own : ∃ D n, w.ownsMap Try.prog 9 rdv b n D ∧ n ≤ l.length ∧ (∀ x ∈ l, ∃ u, D.atKey (keyL x.f0) mz = .held u ∧ Maps.has D (keyL x.f0) = true ∧ kG.M w 0 ok x.f1 [u]) ∧ ∀ s, (∀ x ∈ l, x.f0 ≠ s) → Maps.has D (keyL s) = false
theorem MapIs.made (ok : Nat → Prop) (w : World) : MapIs ok (w.alloc (.map #[] 0)) w.heap.size [] :=
  ⟨_, 0, World.ownsMap_made w _ _ _, Nat.le_refl _, fun x hx => (by cases hx), fun s _ => rfl⟩
theorem MapIs.lt {ok : Nat → Prop} {w : World} {b : Nat} {l : List ArgX} (h : MapIs ok w b l) : b < w.heap.size := by
  obtain ⟨D, n, ho, _⟩ := h
  exact ho.lt
theorem MapIs.mono {ok ok' : Nat → Prop} {w : World} {b : Nat} {l : List ArgX} (h : MapIs ok w b l) (hk : ∀ k, ok k → k < w.heap.size → ok' k) : MapIs ok' w b l := by
  obtain ⟨D, n, ho, hn, hx, hz⟩ := h
  refine ⟨D, n, ho, hn, fun x hl => ?_, hz⟩
  obtain ⟨u, h1, h2, h3⟩ := hx x hl
  exact ⟨u, h1, h2, kG.M_mono (fun k hq => hk k hq.1 hq.2.2.1) (kG.M_bound h3)⟩
theorem MapIs.move {ok : Nat → Prop} {w w' : World} {b : Nat} {l : List ArgX} (h : MapIs ok w b l) (hb : w'.heap[b]? = w.heap[b]?) (hm : ∀ k, ok k → k < w.heap.size → w'.heap[k]? = w.heap[k]?) : MapIs ok w' b l := by
  obtain ⟨D, n, ho, hn, hx, hz⟩ := h
  have hlt := ho.lt
  obtain ⟨es, clock, he, F, hs, hD⟩ := ho
  refine ⟨D, n, ⟨es, clock, hb.trans he, F, hs, hD⟩, hn, fun x hl => ?_, hz⟩
  obtain ⟨u, h1, h2, h3⟩ := hx x hl
  exact ⟨u, h1, h2, Kd.M_step h3 (fun k hk hlt => hm k hk hlt)⟩
theorem MapIs.step {ok : Nat → Prop} {w w' : World} {b : Nat} {l : List ArgX} (h : MapIs ok w b l) (hm : ∀ k, k < w.heap.size → w'.heap[k]? = w.heap[k]?) : MapIs ok w' b l :=
  h.move (hm b h.lt) (fun k _ hk => hm k hk)
theorem MapIs.below {ok : Nat → Prop} {w w' : World} {b : Nat} {l : List ArgX} (h : MapIs ok w b l) (hb : Below w.heap.size w w') : MapIs ok w' b l := h.step (fun k hk => hb.block k hk)
/-- A row has grown, none of the map's. -/
theorem MapIs.grown {ok : Nat → Prop} {w w' : World} {b : Nat} {l : List ArgX} (h : MapIs ok w b l) {row : Option Nat} (hg : w.grownBy w' row) (hb : some b ≠ row) (hok : ∀ k, ok k → some k ≠ row) : MapIs ok w' b l :=
  h.move (hg.block b h.lt hb) (fun k hk hlt => hg.block k hlt (hok k hk))
/-- A map's block is no row. -/
theorem MapIs.no_row {ok : Nat → Prop} {w : World} {b : Nat} {l : List ArgX} (h : MapIs ok w b l) {B : Nat} {e : TypeId} {k : Nat} {v : Value} {n : Nat} {xs : List Value} (ho : w.ownsRow B e k v n xs) : some b ≠ v.ownBlock := by
  obtain ⟨D, m, ⟨es, clock, hb, _⟩, _⟩ := h
  rcases ho.2 with ⟨rfl, _⟩ | ⟨g, cap, cur, rfl, _, hg, _⟩
  · simp [Value.ownBlock]
  · intro he
    have : b = g := by simpa [Value.ownBlock] using he
    subst this
    rw [hg] at hb
    cases hb
theorem look_hit {ok : Nat → Prop} {w : World} {b : Nat} {l : List ArgX} (h : MapIs ok w b l) (x : ArgX) (hx : x ∈ l) (hs : x.f0.size ≤ maxLen) :
    ∃ u, (Instr.lookup 35 (.map (some b)) (.string x.f0) true).run Try.prog w = .ok (.tuple #[u, .bool true]) w ∧ kG.K w x.f1 [u] := by
  obtain ⟨D, n, ho, hn, hl, hz⟩ := h
  obtain ⟨u, h1, h2, h3⟩ := hl x hx
  obtain ⟨v, ps, hrun, hv⟩ := ho.look_ok mkeyed Try.underlying35 (zero_iface w) (zd := mz) (zp := []) rfl (key_at x.f0 hs)
  rw [h1] at hv
  have e : v = u := by
    simp only [rdv, Option.some.injEq, Prod.mk.injEq, DataW.held.injEq] at hv
    exact hv.1
  subst e
  rw [h2] at hrun
  exact ⟨v, hrun, kG.K_of_M h3⟩
theorem look_miss {ok : Nat → Prop} {w : World} {b : Nat} {l : List ArgX} (h : MapIs ok w b l) (s : ByteArray) (hx : ∀ x ∈ l, x.f0 ≠ s) (hs : s.size ≤ maxLen) :
    (Instr.lookup 35 (.map (some b)) (.string s) true).run Try.prog w = .ok (.tuple #[.nilIface, .bool false]) w := by
  obtain ⟨D, n, ho, hn, hl, hz⟩ := h
  obtain ⟨v, ps, hrun, hv⟩ := ho.look_ok mkeyed Try.underlying35 (zero_iface w) (zd := mz) (zp := []) rfl (key_at s hs)
  rw [Maps.atKey_of_not_has (hz s hx)] at hv
  have e : v = .nilIface := by
    simp only [rdv, mz, Option.some.injEq, Prod.mk.injEq, DataW.held.injEq] at hv
    exact hv.1
  subst e
  rw [hz s hx] at hrun
  exact hrun
theorem map_store {ok : Nat → Prop} {w : World} {b : Nat} {l : List ArgX} (h : MapIs ok w b l) (x : ArgX) (u : Value) (hx : ∀ y ∈ l, y.f0 ≠ x.f0) (hs : x.f0.size ≤ maxLen) (hn : l.length < maxLen) (hu : kG.M w 0 ok x.f1 [u]) :
    ∃ w', (Instr.mapUpdate 35 (.map (some b)) (.string x.f0) u).run Try.prog w = .ok () w' ∧ MapIs ok w' b (l ++ [x]) ∧ w.grownBy w' (some b) := by
  obtain ⟨D, n, ho, hle, hl, hz⟩ := h
  obtain ⟨w', hrun, ho2, hg⟩ := ho.update mkeyed Try.underlying35 (Nat.lt_of_le_of_lt hle hn) (key_at x.f0 hs) (show rdv u = some (.held u, []) from rfl)
  have hkeep : ∀ y v, kG.M w 0 ok y [v] → kG.M w' 0 ok y [v] := fun y v hM => by
    refine kG.M_mono (fun _ hk => hk.1) (kG.M_move (fun k hk => ?_) (kG.M_bound hM))
    obtain ⟨_, _, hlt, q, _, cells, hc⟩ := hk
    refine hg.block k hlt (fun e => ?_)
    injection e with e
    subst e
    obtain ⟨es, clock, hb, _⟩ := ho
    rw [hc] at hb
    cases hb
  have hM := ho.isMap
  refine ⟨w', hrun, ⟨_, _, ho2, by simp; omega, fun y hy => ?_, fun s hsx => ?_⟩, hg⟩
  · rcases List.mem_append.1 hy with hy | hy
    · obtain ⟨v, h1, h2, h3⟩ := hl y hy
      have hne : keyL y.f0 ≠ keyL x.f0 := fun e => hx y hy (keyL_inj e)
      exact ⟨v, (Maps.atKey_put_other hne _ _).trans h1, (Maps.has_put_other hne _).trans h2, hkeep _ _ h3⟩
    · obtain rfl := List.mem_singleton.1 hy
      exact ⟨u, Maps.atKey_put_same hM (key_lit _ hs) _ _, Maps.has_put_same hM (key_lit _ hs) _, hkeep _ _ hu⟩
  · have hne : keyL s ≠ keyL x.f0 := fun e => hsx x (by simp) (keyL_inj e).symm
    exact (Maps.has_put_other hne _).trans (hz s (fun y hy => hsx y (by simp [hy])))
/-- The same of a later world in which the map's block stands. -/
theorem look_hit_at {ok : Nat → Prop} {w w' : World} {b : Nat} {l : List ArgX} (h : MapIs ok w b l) (hb : w'.heap[b]? = w.heap[b]?) (x : ArgX) (hx : x ∈ l) (hs : x.f0.size ≤ maxLen) :
    ∃ u, (Instr.lookup 35 (.map (some b)) (.string x.f0) true).run Try.prog w' = .ok (.tuple #[u, .bool true]) w' ∧ kG.K w x.f1 [u] := by
  obtain ⟨D, n, ho, hn, hl, hz⟩ := h
  obtain ⟨es, clock, he, F, hss, hD⟩ := ho
  have ho' : w'.ownsMap Try.prog 9 rdv b n D := ⟨es, clock, hb.trans he, F, hss, hD⟩
  obtain ⟨u, h1, h2, h3⟩ := hl x hx
  obtain ⟨v, ps, hrun, hv⟩ := ho'.look_ok mkeyed Try.underlying35 (zero_iface w') (zd := mz) (zp := []) rfl (key_at x.f0 hs)
  rw [h1] at hv
  have e : v = u := by
    simp only [rdv, Option.some.injEq, Prod.mk.injEq, DataW.held.injEq] at hv
    exact hv.1
  subst e
  rw [h2] at hrun
  exact ⟨v, hrun, kG.K_of_M h3⟩
theorem look_miss_at {ok : Nat → Prop} {w w' : World} {b : Nat} {l : List ArgX} (h : MapIs ok w b l) (hb : w'.heap[b]? = w.heap[b]?) (s : ByteArray) (hx : ∀ x ∈ l, x.f0 ≠ s) (hs : s.size ≤ maxLen) :
    (Instr.lookup 35 (.map (some b)) (.string s) true).run Try.prog w' = .ok (.tuple #[.nilIface, .bool false]) w' := by
  obtain ⟨D, n, ho, hn, hl, hz⟩ := h
  obtain ⟨es, clock, he, F, hss, hD⟩ := ho
  have ho' : w'.ownsMap Try.prog 9 rdv b n D := ⟨es, clock, hb.trans he, F, hss, hD⟩
  obtain ⟨v, ps, hrun, hv⟩ := ho'.look_ok mkeyed Try.underlying35 (zero_iface w') (zd := mz) (zp := []) rfl (key_at s hs)
  rw [Maps.atKey_of_not_has (hz s hx)] at hv
  have e : v = .nilIface := by
    simp only [rdv, mz, Option.some.injEq, Prod.mk.injEq, DataW.held.injEq] at hv
    exact hv.1
  subst e
  rw [hz s hx] at hrun
  exact hrun
section
variable {ops : Array Oper} {rest : List Oper} {o : Oper} {a : Act} {Q : Exit → Act → World → Prop}
theorem wp_look_miss {ok : Nat → Prop} (w : World) (hg : o.guard = none) (m x : Operand) (hop : o.op = Op.lookup 35 m x true) (b : Nat) (l : List ArgX) (s : ByteArray) (hm : a.eval m = .map (some b)) (hx : a.eval x = .string s)
    (h : MapIs ok w b l) (hno : ∀ x ∈ l, x.f0 ≠ s) (hs : s.size ≤ maxLen) (hK : wpList Try.prog ops Q rest (a.put o.dst (.tuple #[.nilIface, .bool false])) w) : wpList Try.prog ops Q (o :: rest) a w := by
  refine wpList_plain hg fun K' hK' => ?_
  have hrun := look_miss h s hno hs
  unfold Oper.wp
  simp [execOp, hop, hm, hx, hrun, Result.andThen]
  exact hK' _ _ hK
theorem wp_look_hit {ok : Nat → Prop} (w : World) (hg : o.guard = none) (m x : Operand) (hop : o.op = Op.lookup 35 m x true) (b : Nat) (l : List ArgX) (y : ArgX) (s : ByteArray) (hm : a.eval m = .map (some b)) (hx : a.eval x = .string s)
    (h : MapIs ok w b l) (hy : y ∈ l) (hys : y.f0 = s) (hs : s.size ≤ maxLen) (hK : ∀ u, kG.K w y.f1 [u] → wpList Try.prog ops Q rest (a.put o.dst (.tuple #[u, .bool true])) w) : wpList Try.prog ops Q (o :: rest) a w := by
  subst hys
  refine wpList_plain hg fun K' hK' => ?_
  obtain ⟨u, hrun, hu⟩ := look_hit h y hy hs
  unfold Oper.wp
  simp [execOp, hop, hm, hx, hrun, Result.andThen]
  exact hK' _ _ (hK u hu)
theorem wp_miss_at {ok : Nat → Prop} (w0 w : World) (hg : o.guard = none) (m x : Operand) (hop : o.op = Op.lookup 35 m x true) (b : Nat) (l : List ArgX) (s : ByteArray) (hm : a.eval m = .map (some b)) (hx : a.eval x = .string s)
    (h : MapIs ok w0 b l) (hb : w.heap[b]? = w0.heap[b]?) (hno : ∀ x ∈ l, x.f0 ≠ s) (hs : s.size ≤ maxLen) (hK : wpList Try.prog ops Q rest (a.put o.dst (.tuple #[.nilIface, .bool false])) w) : wpList Try.prog ops Q (o :: rest) a w := by
  refine wpList_plain hg fun K' hK' => ?_
  have hrun := look_miss_at h hb s hno hs
  unfold Oper.wp
  simp [execOp, hop, hm, hx, hrun, Result.andThen]
  exact hK' _ _ hK
theorem wp_hit_at {ok : Nat → Prop} (w0 w : World) (hg : o.guard = none) (m x : Operand) (hop : o.op = Op.lookup 35 m x true) (b : Nat) (l : List ArgX) (y : ArgX) (s : ByteArray) (hm : a.eval m = .map (some b)) (hx : a.eval x = .string s)
    (h : MapIs ok w0 b l) (hb : w.heap[b]? = w0.heap[b]?) (hy : y ∈ l) (hys : y.f0 = s) (hs : s.size ≤ maxLen) (hK : ∀ u, kG.K w0 y.f1 [u] → wpList Try.prog ops Q rest (a.put o.dst (.tuple #[u, .bool true])) w) : wpList Try.prog ops Q (o :: rest) a w := by
  subst hys
  refine wpList_plain hg fun K' hK' => ?_
  obtain ⟨u, hrun, hu⟩ := look_hit_at h hb y hy hs
  unfold Oper.wp
  simp [execOp, hop, hm, hx, hrun, Result.andThen]
  exact hK' _ _ (hK u hu)
theorem wp_store {ok : Nat → Prop} (w : World) (hg : o.guard = none) (m x v : Operand) (hop : o.op = Op.mapUpdate 35 m x v) (b : Nat) (l : List ArgX) (y : ArgX) (u : Value) (hm : a.eval m = .map (some b)) (hx : a.eval x = .string y.f0) (hv : a.eval v = u)
    (h : MapIs ok w b l) (hno : ∀ x ∈ l, x.f0 ≠ y.f0) (hs : y.f0.size ≤ maxLen) (hn : l.length < maxLen) (hu : kG.M w 0 ok y.f1 [u])
    (hK : ∀ w', MapIs ok w' b (l ++ [y]) → w.grownBy w' (some b) → wpList Try.prog ops Q rest (a.put o.dst undef) w') : wpList Try.prog ops Q (o :: rest) a w := by
  refine wpList_plain hg fun K' hK' => ?_
  obtain ⟨w', hrun, h1, h2⟩ := map_store h y u hno hs hn hu
  unfold Oper.wp
  simp [execOp, hop, hm, hx, hv, hrun, Result.andThen]
  exact hK' _ _ (hK w' h1 h2)
end
end Go.Proofs.Ytmiggjncmeomlaa.H

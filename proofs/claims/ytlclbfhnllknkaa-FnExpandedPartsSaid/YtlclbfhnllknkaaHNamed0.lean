/-
  CONTRACTS: errors.New; sqlx's bindMapArgs over a map as mapOf makes it: the values of names by a list of arguments.
-/
import Derived.Test.YtlclbfhnllknkaaHMap
import Derived.Laws.AppendOwnNone
import Derived.Lib.OthersKept
namespace Go.Proofs.Ytlclbfhnllknkaa.H
open Go.RowKit Go.Proofs.YtlclbfhnllknkaaW.PrintWords Go.Proofs.YtlclbfhnllknkaaW.PrintLast Go.Proofs.YtlclbfhnllknkaaW.PrintMore Go.Proofs.Ytlclbfhnllknkaa.QE
set_option linter.unusedVariables false
set_option linter.unusedSimpArgs false

set_option maxRecDepth 100000 in
/-- An error of a text. -/
theorem errors_new (t : ByteArray) (w : World) : Calls Try.prog 29 #[.string t] w fun e w' => (∃ ty x, e = .returned (.iface ty x)) ∧ Below w.heap.size w w' := by
  go_enter Try.func29, Try.ntmps29
  go_wp2_with fail
  go_ret
  exact ⟨⟨_, _, rfl⟩, below_alloc (Below.refl _ _) _⟩
def findA (l : List S41) (s : ByteArray) : Option S41 := l.find? fun x => decide (x.f0 = s)
/-- The values of names; none: one has none. -/
def valsOf : List ByteArray → List S41 → Option (List S37)
  | [], _ => some []
  | s :: ss, l => match findA l s with
    | some x => (valsOf ss l).map (x.f1 :: ·)
    | none => none
theorem findA_some {l : List S41} {s : ByteArray} {x : S41} (h : findA l s = some x) : x ∈ l ∧ x.f0 = s :=
  ⟨List.mem_of_find?_eq_some h, by simpa using List.find?_some h⟩
theorem findA_none {l : List S41} {s : ByteArray} (h : findA l s = none) : ∀ x ∈ l, x.f0 ≠ s := fun x hx e => by
  have := List.find?_eq_none.1 h x hx
  simp [e] at this
theorem valsOf_len : ∀ (names : List ByteArray) (l : List S41) (vs : List S37), valsOf names l = some vs → vs.length = names.length
  | [], l, vs, h => by
    injection h with h
    rw [← h]
    rfl
  | s :: ss, l, vs, h => by
    rw [valsOf] at h
    cases hf : findA l s with
    | none =>
      rw [hf] at h
      cases h
    | some x =>
      rw [hf] at h
      obtain ⟨us, h1, h2⟩ := Option.map_eq_some_iff.1 h
      rw [← h2, List.length_cons, List.length_cons, valsOf_len ss l us h1]
theorem valsOf_mem : ∀ (names : List ByteArray) (l : List S41) (vs : List S37), valsOf names l = some vs → ∀ v ∈ vs, ∃ x ∈ l, x.f1 = v
  | [], l, vs, h => by
    injection h with h
    rw [← h]
    intro v hv
    cases hv
  | s :: ss, l, vs, h => by
    rw [valsOf] at h
    cases hf : findA l s with
    | none =>
      rw [hf] at h
      cases h
    | some x =>
      rw [hf] at h
      obtain ⟨us, h1, h2⟩ := Option.map_eq_some_iff.1 h
      rw [← h2]
      intro v hv
      rcases List.mem_cons.1 hv with rfl | hv
      · exact ⟨x, (findA_some hf).1, rfl⟩
      · exact valsOf_mem ss l us h1 v hv
/-- A row of interface values of the call's own: these values, as they lie in w0. -/
def ARow (w0 : World) (B : Nat) (vs : List S37) (v : Value) (w : World) : Prop := OwnRow (kG.K w0) 20 1 w B v vs
theorem ARow.got {w0 w : World} {B : Nat} {vs : List S37} {v : Value} (h : ARow w0 B vs v w) (hb : Below w0.heap.size w0 w) : ∃ A c, v = .slice A vs.length c ∧ vs.length ≤ c ∧ kG.C w A vs.length vs := by
  obtain ⟨A, c, e, hl, hr⟩ := OwnRow.reads h
  exact ⟨A, c, e, hl, hr.imp_ (Below.refl _ _) (fun _ _ hp => kG.K_below hb hp)⟩
section
variable {ops : Array Oper} {rest : List Oper} {o : Oper} {a : Act} {Q : Exit → Act → World → Prop}
theorem make_any (w0 w : World) (B : Nat) (hg : o.guard = none) (l c : Operand) (hop : o.op = Op.makeSlice 45 l c)
    (C : Int) (n : Nat) (hl : a.eval l = .int .i64 0) (hc : a.eval c = .int .i64 C) (hC : C = (n : Int)) (hn : n ≤ 1099511627776) (hB : B ≤ w.heap.size)
    (hK : ∀ w', ARow w0 B [] (.slice (some ⟨w.heap.size, 0, none⟩) 0 n) w' → w.grownBy w' none → wpList Try.prog ops Q rest (a.put o.dst (.slice (some ⟨w.heap.size, 0, none⟩) 0 n)) w') :
    wpList Try.prog ops Q (o :: rest) a w := by
  obtain ⟨i0, hi, hz0, hz1, hz2⟩ := info_parts info_iface
  exact wpList_make_own w hg l c 45 hop B 20 i0 _ 1 Try.underlying45 hi hz0 hz1 .i64 .i64 C n hl hc hC (by rw [hz2]; omega) (by simp only [maxLen]; omega) hB (fun w' h1 h2 => hK w' ⟨[], h1, Reps.none _ _⟩ h2)
end
def BindPost (w0 : World) (B : Nat) (r : Option (List S37)) (e : Ending) (w' : World) : Prop := match r with
  | some vs => ∃ v, e = .returned (.tuple #[v, .nilIface]) ∧ ARow w0 B vs v w'
  | none => ∃ v t x, e = .returned (.tuple #[v, .iface t x])
theorem below_none {w w' : World} {B : Nat} (hg : w.grownBy w' none) (hB : B ≤ w.heap.size) {w1 : World} (h : Below B w1 w) : Below B w1 w' := h.grown hg hB (fun k hk => by cases hk)
set_option maxHeartbeats 3200000 in
set_option maxRecDepth 100000 in
theorem bindMapArgs_is (names : List ByteArray) (l : List S41) (ok : Nat → Prop) (w0 w : World) (b : Nat) (hM : MapIs ok w0 b l) (hB : Below w0.heap.size w0 w) (hn : names.length ≤ 1048576) (hs : ∀ s ∈ names, s.size ≤ maxLen)
    (A : Option Addr) (c : Nat) (hC : Kd.C Kd.string w A names.length names) :
    Calls Try.prog 26 #[.slice A names.length c, .map (some b)] w fun e w' => Below w.heap.size w w' ∧ BindPost w0 w.heap.size (valsOf names l) e w' := by
  have HM := Lib.hid hM
  have HB0 := Lib.hid hB
  have HS := Lib.hid hs
  have HC := Lib.hid hC
  obtain ⟨R, hR⟩ : ∃ R, R = valsOf names l := ⟨_, rfl⟩
  rw [← hR]
  have HR := Lib.hid hR.symm
  clear hM hB hs hC hR
  go_enter Try.func26, Try.ntmps26
  go_wp2_with (first | (at_make; refine make_any w0 w w.heap.size rfl _ _ rfl _ names.length rfl rfl rfl (by omega) (Nat.le_refl _) ?_; intro w1 hO1 hg1; refine Hid.out ?_))
  refine Lib.hid ?_
  have HO1 := Lib.hid hO1
  have HB1 := below_none hg1 (Nat.le_refl _) (Below.refl w.heap.size w)
  clear hO1 hg1
  go_wp2_with fail
  go_loopg [6, 16] names.length (fun g v6 v16 w' => ∃ (i : Int) (vs : List S37), v16 = .int .i64 i ∧ Hid (0 ≤ i ∧ i + g = names.length) ∧ Hid (ARow w0 w.heap.size vs v6 w' ∧ vs.length = i.toNat) ∧ Hid ((valsOf (names.drop i.toNat) l).map (vs ++ ·) = R) ∧ Below w.heap.size w w')
  case atStart => exact ⟨0, [], rfl, Lib.hid ⟨by omega, by omega⟩, Lib.hid ⟨HO1.out, rfl⟩, Lib.hid (by rw [← HR.out]; simp), HB1⟩
  case round =>
    obtain ⟨i, vs, rfl, HI, HO, HV, HB⟩ := hrel
    have hi := HI.out
    cases gk with
    | zero =>
      have hge : ¬ i < (names.length : Int) := by omega
      have hdrop : names.drop i.toNat = [] := List.drop_eq_nil_of_le (by omega)
      have hv := HV.out
      rw [hdrop] at hv
      have HF : Hid (R = some vs) := Lib.hid (by rw [← hv]; simp [valsOf])
      clear hi hdrop hv
      go_wp2_with fail
      go_ret2
      refine ⟨HB, ?_⟩
      rw [HF.out]
      exact ⟨_, rfl, HO.out.1⟩
    | succ g =>
      have hlt : i < (names.length : Int) := by omega
      have h0 : 0 ≤ i := hi.1
      obtain ⟨ad, rfl, _⟩ := (Kd.C_below HC.out HB).2.2 (by omega)
      have hcell := Kd.foot_string (Kd.C_below HC.out HB) i h0 hlt
      have hmem : rdOf ByteArray.empty names i ∈ names := by
        unfold rdOf
        rw [List.getD_eq_getElem?_getD, List.getElem?_eq_getElem (show i.toNat < names.length by omega)]
        exact List.getElem_mem _
      have HSZ := Lib.hid (HS.out _ hmem)
      have hdrop : names.drop i.toNat = rdOf ByteArray.empty names i :: names.drop (i + 1).toNat := by
        unfold rdOf
        rw [show (i + 1).toNat = i.toNat + 1 by omega, List.getD_eq_getElem?_getD, List.getElem?_eq_getElem (show i.toNat < names.length by omega)]
        exact List.drop_eq_getElem_cons _
      have hv := HV.out
      rw [hdrop, valsOf] at hv
      have hblk := (HB0.out.trans (HB.mono HB0.out.size)).block b HM.out.lt
      have HBLK := Lib.hid hblk
      generalize rdOf ByteArray.empty names i = s at hcell HSZ hv
      cases hf : findA l s with
      | none =>
        rw [hf] at hv
        have HF : Hid (R = none) := Lib.hid (by rw [← hv]; rfl)
        have HN := Lib.hid (findA_none hf)
        clear hv hf hmem hdrop hblk hi
        go_wp2_with (first | (at_lookup; refine wp_miss_at w0 _ rfl (.tmp 21) (.tmp 22) rfl b l s rfl rfl HM.out HBLK.out HN.out HSZ.out ?_))
        refine (errors_new _ _).mono ?_
        rintro e w2 ⟨⟨t, x, rfl⟩, hb⟩
        go_wp2_with fail
        go_ret2
        refine ⟨HB.trans (hb.mono HB.size), ?_⟩
        rw [HF.out]
        exact ⟨_, _, _, rfl⟩
      | some x =>
        rw [hf] at hv
        obtain ⟨hx1, hx2⟩ := findA_some hf
        have HX1 := Lib.hid hx1
        have HX2 := Lib.hid hx2
        have HV2 : Hid ((valsOf (names.drop (i + 1).toNat) l).map ((vs ++ [x.f1]) ++ ·) = R) := Lib.hid (by rw [← hv]; cases valsOf (names.drop (i + 1).toNat) l <;> simp)
        clear hv hf hmem hdrop hblk hi hx1 hx2
        go_wp2_with (first | (at_lookup; refine wp_hit_at w0 _ rfl (.tmp 21) (.tmp 22) rfl b l x s rfl rfl HM.out HBLK.out HX1.out HX2.out HSZ.out ?_))
        intro u hu
        have HU := Lib.hid hu
        have HIF := Lib.hid (kG_if _ _ _ hu)
        have hbase := HB.size
        have hvl : vs.length ≤ 1048576 := by have := HO.out.2; have := HI.out; omega
        clear hu
        rcases HIF.out with rfl | ⟨t, v, rfl⟩
        all_goals
          go_wp2_with (first | ((with_reducible refine gate_builtin (b := .append) (xs := #[.tmp 30, .tmp 32]) rfl ?_); at_builtin; refine OwnRow.append (R := kG.K w0) (w0 := w) w.heap.size rfl (.tmp 30) (.tmp 32) 45 20 .nilIface 1 16 rfl Try.underlying45 info_iface rfl (by decide) (by decide) u6 vs x.f1 [_] rfl rfl HU.out rfl (kG.K_one HU.out) HO.out.1 HB hbase (by omega) ?_))
          intro v1 w1 hO1 hB1 _ _
          have HO3 : Hid (ARow w0 w.heap.size (vs ++ [x.f1]) v1 w1) := Lib.hid hO1
          clear hO1
          go_wp2_with fail
          go_roundg g
          case measure => omega
          case rel => exact ⟨i + 1, vs ++ [x.f1], rfl, Lib.hid (by have := HI.out; omega), Lib.hid ⟨HO3.out, by have := HO.out.2; have := HI.out; simp; omega⟩, HV2, hB1⟩
end Go.Proofs.Ytlclbfhnllknkaa.H

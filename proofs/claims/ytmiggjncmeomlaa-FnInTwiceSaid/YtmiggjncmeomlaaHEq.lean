/-
  CONTRACTS: squirrel's Eq of one name and one right value: its text and its arguments ('neg': NotEq's).
-/
import Derived.Test.YtmiggjncmeomlaaHKeys
import Derived.Test.YtmiggjncmeomlaaHTable
import Derived.Test.YtmiggjncmeomlaaHErr
import Derived.Test.YtmiggjncmeomlaaHPlaces
import Derived.Lib.BufferMore
namespace Go.Proofs.Ytmiggjncmeomlaa.H
open Go.RowKit Go.Proofs.YtmiggjncmeomlaaW.PrintWords Go.Proofs.YtmiggjncmeomlaaW.PrintLast Go.Proofs.YtmiggjncmeomlaaW.PrintMore Go.Proofs.Ytmiggjncmeomlaa.QS
set_option linter.unusedVariables false
set_option linter.unusedSimpArgs false

set_option maxRecDepth 100000 in
/-- strings.Join of one text is it. -/
theorem join_one (A : Option Addr) (c : Nat) (s sep : ByteArray) (w : World) (h : Kd.C Kd.string w A 1 [s]) :
    Calls Try.prog 34 #[.slice A 1 c, .string sep] w fun e w' => e = .returned (.string s) ∧ w' = w := by
  obtain ⟨ad, rfl, h2⟩ := h.2.2 (by omega)
  obtain ⟨cs, _, hK, hc⟩ := h2 0 s rfl
  have hK' : cs = [.string s] := hK
  subst hK'
  have hcell : w.cell? ad = some (.string s) := by simpa [Addr.add] using hc 0 _ rfl
  clear h hc h2 hK
  go_enter Try.func34, Try.ntmps34
  go_wp2_with fail
  go_ret
  exact ⟨rfl, rfl⟩
theorem assert_one {P : Program} {T : TypeId} {d : TypeDesc} (hu : P.underlying T = some d) (hd : ∀ ms, d ≠ .interface ms) (xT : TypeId) (v : Value) (W : World) : (Instr.typeAssert (.iface T v) xT T false).run P W = .ok v W := by
  unfold Instr.typeAssert
  simp only [Sem.run_bind, run_underlying hu, Result.andThen]
  cases d <;> simp_all [Sem.run_pure]
theorem ta_list_one (v : Value) (W : World) : (Instr.typeAssert (.iface 39 v) 20 39 false).run Try.prog W = .ok v W := assert_one Try.underlying39 (fun _ h => by cases h) _ v W
set_option maxRecDepth 100000 in
theorem isList_yes (v : Value) (w : World) : Calls Try.prog 32 #[.iface 39 v] w fun e w' => e = .returned (.bool true) ∧ w' = w := by
  have ht := ta_list_yes v
  go_enter Try.func32, Try.ntmps32
  go_wp2_with fail
  go_ret
  exact ⟨rfl, rfl⟩
set_option maxRecDepth 100000 in
theorem isList_no (t : TypeId) (h : t ≠ 39) (v : Value) (w : World) : Calls Try.prog 32 #[.iface t v] w fun e w' => e = .returned (.bool false) ∧ w' = w := by
  have ht := ta_list_no t v h
  go_enter Try.func32, Try.ntmps32
  go_wp2_with fail
  go_ret
  exact ⟨rfl, rfl⟩
/-- A look-up without 'ok', at the map's named type. -/
theorem look_one {ok : Nat → Prop} {w : World} {b : Nat} {l : List ArgX} (h : MapIs ok w b l) (x : ArgX) (hx : x ∈ l) (hs : x.f0.size ≤ maxLen) :
    ∃ u, (Instr.lookup 43 (.map (some b)) (.string x.f0) false).run Try.prog w = .ok u w ∧ kG.K w x.f1 [u] := by
  obtain ⟨D, n, ho, hn, hl, hz⟩ := h
  obtain ⟨u, h1, h2, h3⟩ := hl x hx
  obtain ⟨v, ps, hrun, hv⟩ := ho.lookup mkeyed Try.underlying43 (zero_iface w) (zd := mz) (zp := []) rfl (key_at x.f0 hs)
  rw [h1] at hv
  have e : v = u := by
    simp only [rdv, Option.some.injEq, Prod.mk.injEq, DataW.held.injEq] at hv
    exact hv.1
  subst e
  exact ⟨v, hrun, kG.K_of_M h3⟩
section
variable {ops : Array Oper} {rest : List Oper} {o : Oper} {a : Act} {Q : Exit → Act → World → Prop}
theorem wp_look_one {ok : Nat → Prop} (w : World) (hg : o.guard = none) (m x : Operand) (hop : o.op = Op.lookup 43 m x false) (b : Nat) (l : List ArgX) (y : ArgX) (s : ByteArray) (hm : a.eval m = .map (some b)) (hx : a.eval x = .string s)
    (h : MapIs ok w b l) (hy : y ∈ l) (hys : y.f0 = s) (hs : s.size ≤ maxLen) (hK : ∀ u, kG.K w y.f1 [u] → wpList Try.prog ops Q rest (a.put o.dst u) w) : wpList Try.prog ops Q (o :: rest) a w := by
  subst hys
  refine wpList_plain hg fun K' hK' => ?_
  obtain ⟨u, hrun, hu⟩ := look_one h y hy hs
  unfold Oper.wp
  simp [execOp, hop, hm, hx, hrun, Result.andThen]
  exact hK' _ _ (hK u hu)
end
theorem qm_len : ∀ n, (qm n).length ≤ 2 * n
  | 0 => Nat.le_refl _
  | n + 1 => by
    have := qm_len n
    show (qm n ++ ((if n = 0 then [] else [44]) ++ [63])).length ≤ _
    split <;> simp <;> omega
def txt (l : List UInt8) : ByteArray := ⟨l.toArray⟩
/-- The text of one name and one value. -/
def eqTxt (neg : Bool) (s : ByteArray) (v : S24) : ByteArray :=
  if v.f0 = 0 then s ++ ⟨#[32]⟩ ++ (if neg = true then ⟨#[73, 83, 32, 78, 79, 84]⟩ else ⟨#[73, 83]⟩) ++ ⟨#[32, 78, 85, 76, 76]⟩
  else if v.f0 = 5 then (if v.f3 = [] then (if neg = true then ⟨#[40, 49, 61, 49, 41]⟩ else ⟨#[40, 49, 61, 48, 41]⟩)
    else s ++ ⟨#[32]⟩ ++ (if neg = true then ⟨#[78, 79, 84, 32, 73, 78]⟩ else ⟨#[73, 78]⟩) ++ ⟨#[32, 40]⟩ ++ ⟨(qm v.f3.length).toArray⟩ ++ ⟨#[41]⟩)
  else s ++ ⟨#[32]⟩ ++ (if neg = true then ⟨#[60, 62]⟩ else ⟨#[61]⟩) ++ ⟨#[32, 63]⟩
/-- Its arguments. -/
def eqVals (v : S24) : List S24 := if v.f0 = 0 then [] else if v.f0 = 5 then v.f3 else [v]
def SqlPost (t : ByteArray) (vs : List S24) (e : Ending) (w' : World) : Prop := ∃ A c, e = .returned (.tuple #[.string t, .slice A vs.length c, .nilIface]) ∧ vs.length ≤ c ∧ kG.C w' A vs.length vs
/-- What lies in the map, by the value's kind. -/
theorem kinds_of {w : World} {v : S24} {u : Value} (hv : rightR v) (h : kG.K w v [u]) :
    (v.f0 = 0 ∧ u = .nilIface) ∨ (v.f0 ≠ 0 ∧ v.f0 ≠ 5 ∧ ∃ t y, t ≠ 39 ∧ u = .iface t y) ∨ (v.f0 = 5 ∧ (∀ y ∈ v.f3, atomR y) ∧ ∃ A c, u = .iface 39 (.slice A v.f3.length c) ∧ v.f3.length ≤ c ∧ kGA.C w A v.f3.length v.f3) := by
  have h' : (if v.f0 = 5 then ∃ A c, [u] = [.iface 39 (.slice A v.f3.length c)] ∧ v.f3.length ≤ c ∧ kGA.C w A v.f3.length v.f3 else [u] = [encG v]) := h
  rcases hv with ha | ⟨h5, _, _, ha⟩
  · have h5 : v.f0 ≠ 5 := by have := ha.2.1; omega
    rw [if_neg h5] at h'
    injection h' with h'
    by_cases h0 : v.f0 = 0
    · exact .inl ⟨h0, by rw [h']; unfold encG; rw [h0]; simp⟩
    · refine .inr (.inl ⟨h0, h5, ?_⟩)
      have h1 := ha.1
      have h4 := ha.2.1
      have : v.f0 = 1 ∨ v.f0 = 2 ∨ v.f0 = 3 ∨ v.f0 = 4 := by omega
      rcases this with e | e | e | e
      · exact ⟨2, .int .i64 v.f1, by decide, by rw [h']; unfold encG; rw [e]; rfl⟩
      · exact ⟨9, .string v.f2, by decide, by rw [h']; unfold encG; rw [e]; rfl⟩
      · exact ⟨4, .bool true, by decide, by rw [h']; unfold encG; rw [e]; rfl⟩
      · exact ⟨4, .bool false, by decide, by rw [h']; unfold encG; rw [e]; rfl⟩
  · rw [if_pos h5] at h'
    obtain ⟨A, c, hu, hl, hC⟩ := h'
    injection hu with hu
    exact .inr (.inr ⟨h5, ha, A, c, hu, hl, hC⟩)
set_option maxHeartbeats 6400000 in
set_option maxRecDepth 100000 in
theorem sql_walk {ok : Nat → Prop} (neg : Bool) (s : ByteArray) (v : S24) (hv : rightR v) (hl : v.f3.length ≤ 1048576) (hs : s.size ≤ 1048576) (w : World) (b : Nat) (hM : MapIs ok w b [⟨s, v⟩]) :
    Calls Try.prog 21 #[.map (some b), .bool neg] w fun e w' => SqlPost (eqTxt neg s v) (eqVals v) e w' ∧ Below w.heap.size w w' := by
  obtain ⟨D, n, ho, hn, hx, _⟩ := hM.own
  obtain ⟨_, _, hhas, _⟩ := hx ⟨s, v⟩ (by simp)
  have hone := one_size ho (by simpa using hn) s hhas
  have HOWN := Lib.hid ho
  have HM := Lib.hid hM
  have HV := Lib.hid hv
  obtain ⟨T, hT⟩ : ∃ T, T = eqTxt neg s v := ⟨_, rfl⟩
  rw [← hT]
  have HT := Lib.hid hT
  have HSL : Hid (s.size ≤ maxLen) := Lib.hid (by simp only [maxLen]; omega)
  clear hx hn ho hv hM hT hhas
  cases neg
  all_goals
    go_enter Try.func21, Try.ntmps21
    go_wp2_with (first
      | (at_len; refine wpList_len_own _ rfl _ 43 rfl 9 20 Try.underlying43 rdv b n D rfl HOWN.out ?_))
    refine (keys_one w b s v HM.out).mono ?_
    rintro e w1 ⟨⟨A, c, rfl, hC⟩, hB1⟩
    obtain ⟨ad, rfl, h2⟩ := hC.2.2 (by omega)
    obtain ⟨cs, _, hK, hc⟩ := h2 0 s rfl
    have hK' : cs = [.string s] := hK
    subst hK'
    have hcell : w1.cell? ad = some (.string s) := by simpa [Addr.add] using hc 0 _ rfl
    have HB1 := Lib.hid hB1
    have HM1 := Lib.hid (HM.out.below hB1)
    clear hC hc h2 hK hB1 HOWN hone
    go_wp2_with fail
    refine wp_loop_rounds 2 ?_
    rw [rounds_succ]
    go_wp2_with (first | (at_lookup; refine wp_look_one w1 rfl (.tmp 31) (.tmp 32) rfl b _ ⟨s, v⟩ s rfl rfl HM1.out (by simp) rfl HSL.out ?_))
    intro u hu
    have HU := Lib.hid hu
    rcases kinds_of HV.out hu with ⟨h0, rfl⟩ | ⟨h0, h5, t, y, hne, rfl⟩ | ⟨h5, ha, A2, c2, rfl, hl2, hC2⟩
    · clear hu hcell
      have e1 : s.size + 1 ≤ 9223372036854775807 := by omega
      have HE : Hid (eqVals v = []) := Lib.hid (by unfold eqVals; rw [if_pos h0])
      have HTT := Lib.hid (HT.out.trans (by unfold eqTxt; rw [if_pos h0]))
      go_wp2_with (first | ((with_reducible refine gate_builtin (b := .append) (xs := #[.tmp 84, .tmp 86]) rfl ?_); at_builtin; refine OwnRow.append (R := isStr) (w0 := w) w.heap.size rfl (.tmp 84) (.tmp 86) 30 9 (.string ⟨#[]⟩) 1 16 rfl Try.underlying30 info_str rfl (by decide) (by decide) (.slice none 0 0) [] T [_] rfl (by first | rfl | exact congrArg (fun n => Value.slice (some ⟨n, 0, none⟩) 1 1) (by simp)) (show isStr T [_] by rw [HTT.out]; rfl) rfl (fun u hu => by rw [List.mem_singleton.1 hu]; rfl) (OwnRow.none_ _ _ _ _ _) HB1.out HB1.out.size (by simp) ?_))
      intro v7 w7 hO7 hB7 hg7 _
      obtain ⟨A7, c7, e7, hl7, hr7⟩ := OwnRow.reads hO7
      subst e7
      have HR7 : Hid (Kd.C Kd.string w7 A7 1 [T]) := Lib.hid hr7
      have HB7 := Lib.hid hB7
      skip
      clear hO7 hB7 hg7 hl7 hr7
      go_wp2_with fail
      rw [rounds_succ]
      go_wp2_with fail
      refine (join_one A7 c7 T _ _ HR7.out).mono ?_
      rintro e w8 ⟨rfl, rfl⟩
      go_wp2_with fail
      go_ret3
      exact ⟨by rw [HE.out]; exact ⟨none, 0, rfl, Nat.le_refl _, Kd.C_nil _ _⟩, HB7.out⟩
    · have HE : Hid (eqVals v = [v]) := Lib.hid (by unfold eqVals; rw [if_neg h0, if_neg h5])
      have HTT := Lib.hid (HT.out.trans (by unfold eqTxt; rw [if_neg h0, if_neg h5]))
      clear hu hcell
      have e1 : s.size + 1 ≤ 9223372036854775807 := by omega
      go_wp2_with fail
      refine (isList_no t hne y w1).mono ?_
      rintro e w9 ⟨rfl, rfl⟩
      go_wp2_with (first | ((with_reducible refine gate_builtin (b := .append) (xs := #[.tmp 80, .tmp 82]) rfl ?_); at_builtin; refine OwnRow.append (R := kG.K w9) (w0 := w) w.heap.size rfl (.tmp 80) (.tmp 82) 39 20 .nilIface 1 16 rfl Try.underlying39 info_iface rfl (by decide) (by decide) (.slice none 0 0) [] v [_] rfl rfl HU.out rfl (kG.K_one HU.out) (OwnRow.none_ _ _ _ _ _) HB1.out HB1.out.size (by simp) ?_))
      intro v5 w5 hO5 hB5 hg5 _
      have hb95 : Below w9.heap.size w9 w5 := (Below.refl _ _).grown hg5 (Nat.le_refl _) (fun k hk => by cases hk)
      obtain ⟨A5, c5, e5, hl5, hr5⟩ := ARow.got (show ARow w9 w.heap.size [v] v5 w5 from hO5) hb95
      subst e5
      have HC5 := Lib.hid hr5
      have HL5 := Lib.hid hl5
      have HB5 := Lib.hid hB5
      clear hO5 hB5 hg5 hb95 hl5 hr5
      go_wp2_with (first | ((with_reducible refine gate_builtin (b := .append) (xs := #[.tmp 84, .tmp 86]) rfl ?_); at_builtin; refine OwnRow.append (R := isStr) (w0 := w) w.heap.size rfl (.tmp 84) (.tmp 86) 30 9 (.string ⟨#[]⟩) 1 16 rfl Try.underlying30 info_str rfl (by decide) (by decide) (.slice none 0 0) [] T [_] rfl (by first | rfl | exact congrArg (fun n => Value.slice (some ⟨n, 0, none⟩) 1 1) (by simp)) (show isStr T [_] by rw [HTT.out]; rfl) rfl (fun u hu => by rw [List.mem_singleton.1 hu]; rfl) (OwnRow.none_ _ _ _ _ _) HB5.out HB5.out.size (by simp) ?_))
      intro v7 w7 hO7 hB7 hg7 _
      obtain ⟨A7, c7, e7, hl7, hr7⟩ := OwnRow.reads hO7
      subst e7
      have HR7 : Hid (Kd.C Kd.string w7 A7 1 [T]) := Lib.hid hr7
      have HB7 := Lib.hid hB7
      have HC7 := Lib.hid (Kd.C_below HC5.out ((Below.refl _ _).grown hg7 (Nat.le_refl _) (fun k hk => by cases hk)))
      clear hO7 hB7 hg7 hl7 hr7
      go_wp2_with fail
      rw [rounds_succ]
      go_wp2_with fail
      refine (join_one A7 c7 T _ _ HR7.out).mono ?_
      rintro e w8 ⟨rfl, rfl⟩
      go_wp2_with fail
      go_ret3
      exact ⟨by rw [HE.out]; exact ⟨A5, c5, rfl, HL5.out, HC7.out⟩, HB7.out⟩
    · have hta := ta_list_one (.slice A2 v.f3.length c2)
      have hq := fun W => Lib.run_eql_slice_nil_nil (P := Try.prog) W 0 0 Try.underlying39
      clear hu hcell
      go_wp2_with fail
      refine (isList_yes _ w1).mono ?_
      rintro e w9 ⟨rfl, rfl⟩
      by_cases hz0 : (v.f3.length : Int) = 0
      · have hn : v.f3 = [] := List.eq_nil_of_length_eq_zero (by omega)
        have HE : Hid (eqVals v = []) := Lib.hid (by unfold eqVals; rw [if_neg (by omega), if_pos h5, hn])
        have HTT := Lib.hid (HT.out.trans (by unfold eqTxt; rw [if_neg (by omega), if_pos h5, if_pos hn]))
        clear hn hC2
        have HB5 := Lib.hid (below_alloc HB1.out (.cells #[] 20))
        go_wp2_with (first | ((with_reducible refine gate_builtin (b := .append) (xs := #[.tmp 84, .tmp 86]) rfl ?_); at_builtin; refine OwnRow.append (R := isStr) (w0 := w) w.heap.size rfl (.tmp 84) (.tmp 86) 30 9 (.string ⟨#[]⟩) 1 16 rfl Try.underlying30 info_str rfl (by decide) (by decide) (.slice none 0 0) [] T [_] rfl (by first | rfl | exact congrArg (fun n => Value.slice (some ⟨n, 0, none⟩) 1 1) (by simp)) (show isStr T [_] by rw [HTT.out]; rfl) rfl (fun u hu => by rw [List.mem_singleton.1 hu]; rfl) (OwnRow.none_ _ _ _ _ _) HB5.out HB5.out.size (by simp) ?_))
        intro v7 w7 hO7 hB7 hg7 _
        obtain ⟨A7, c7, e7, hl7, hr7⟩ := OwnRow.reads hO7
        subst e7
        have HR7 : Hid (Kd.C Kd.string w7 A7 1 [T]) := Lib.hid hr7
        have HB7 := Lib.hid hB7
        skip
        clear hO7 hB7 hg7 hl7 hr7
        go_wp2_with fail
        rw [rounds_succ]
        go_wp2_with fail
        refine (join_one A7 c7 T _ _ HR7.out).mono ?_
        rintro e w8 ⟨rfl, rfl⟩
        go_wp2_with fail
        go_ret3
        exact ⟨by rw [HE.out]; exact ⟨some ⟨w9.heap.size, 0, none⟩, 0, rfl, Nat.le_refl _, ⟨rfl, by simp, fun h => absurd h (by simp)⟩⟩, HB7.out⟩
      · have hn : v.f3 ≠ [] := fun h => hz0 (by rw [h]; rfl)
        have HE : Hid (eqVals v = v.f3) := Lib.hid (by unfold eqVals; rw [if_neg (by omega), if_pos h5])
        have HTT := Lib.hid (HT.out.trans (by unfold eqTxt; rw [if_neg (by omega), if_pos h5, if_neg hn]))
        have hz1 : ((v.f3.length : Int) == 0) = false := beq_eq_false_iff_ne.2 hz0
        have HC2 := Lib.hid hC2
        have HA := Lib.hid ha
        clear hn hC2 ha
        go_wp2_with fail
        clear hq hta
        go_loopg [5, 18] v.f3.length (fun g v5 v18 w' => ∃ (i : Int), v18 = .int .i64 i ∧ Hid (0 ≤ i ∧ i + g = v.f3.length) ∧ Hid (ARow w9 w9.heap.size (v.f3.take i.toNat) v5 w') ∧ Hid (Below w9.heap.size w9 w'))
        case atStart => exact ⟨0, rfl, Lib.hid ⟨by omega, by omega⟩, Lib.hid (OwnRow.none_ _ _ _ _ _), Lib.hid (Below.refl _ _)⟩
        case round =>
          obtain ⟨i, rfl, HI, HO, HB⟩ := hrel
          have hi := HI.out
          cases gk with
          | zero =>
            have hge : ¬ i < (v.f3.length : Int) := by omega
            have hall : v.f3.take i.toNat = v.f3 := List.take_of_length_le (by omega)
            have HO2 := HO.out
            rw [hall] at HO2
            obtain ⟨A5, c5, e5, hl5, hr5⟩ := ARow.got HO2 HB.out
            subst e5
            have HC5 := Lib.hid hr5
            have HL5 := Lib.hid hl5
            have HB5 := Lib.hid (HB1.out.trans (HB.out.mono HB1.out.size))
            clear hi hall HO2 hl5 hr5 HO HI
            have hpl : squirrel_Placeholders.f (v.f3.length : Int) = some ⟨(qm v.f3.length).toArray⟩ := by
              unfold squirrel_Placeholders.f
              rw [if_neg (by omega), if_pos (by omega), Int.toNat_natCast]
            have HPL := Lib.hid hpl
            have hql := qm_len v.f3.length
            have hqs : (⟨(qm v.f3.length).toArray⟩ : ByteArray).size = (qm v.f3.length).length := rfl
            clear hpl
            go_wp2_with fail
            refine (squirrel_Placeholders.calls _ _ _ HPL.out).mono ?_
            rintro e w6 ⟨rfl, hb6⟩
            have HC6 := Lib.hid (Kd.C_below HC5.out hb6)
            have HB6 := Lib.hid (HB5.out.trans (hb6.mono HB5.out.size))
            have e2 : s.size + 1 + 8 + (qm v.f3.length).length + 1 ≤ 9223372036854775807 := by omega
            clear hb6 HC5 HB5 HPL HB
            go_wp2_with (first | ((with_reducible refine gate_builtin (b := .append) (xs := #[.tmp 84, .tmp 86]) rfl ?_); at_builtin; refine OwnRow.append (R := isStr) (w0 := w) w.heap.size rfl (.tmp 84) (.tmp 86) 30 9 (.string ⟨#[]⟩) 1 16 rfl Try.underlying30 info_str rfl (by decide) (by decide) (.slice none 0 0) [] T [_] rfl (by first | rfl | exact congrArg (fun n => Value.slice (some ⟨n, 0, none⟩) 1 1) (by simp)) (show isStr T [_] by rw [HTT.out]; rfl) rfl (fun u hu => by rw [List.mem_singleton.1 hu]; rfl) (OwnRow.none_ _ _ _ _ _) HB6.out HB6.out.size (by simp) ?_))
            intro v7 w7 hO7 hB7 hg7 _
            obtain ⟨A7, c7, e7, hl7, hr7⟩ := OwnRow.reads hO7
            subst e7
            have HR7 : Hid (Kd.C Kd.string w7 A7 1 [T]) := Lib.hid hr7
            have HB7 := Lib.hid hB7
            have HC7 := Lib.hid (Kd.C_below HC6.out ((Below.refl _ _).grown hg7 (Nat.le_refl _) (fun k hk => by cases hk)))
            clear hO7 hB7 hg7 hl7 hr7
            go_wp2_with fail
            rw [rounds_succ]
            go_wp2_with fail
            refine (join_one A7 c7 T _ _ HR7.out).mono ?_
            rintro e w8 ⟨rfl, rfl⟩
            go_wp2_with fail
            go_ret3
            exact ⟨by rw [HE.out]; exact ⟨A5, c5, rfl, HL5.out, HC7.out⟩, HB7.out⟩
          | succ g =>
            have hlt : i < (v.f3.length : Int) := by omega
            have h0 : 0 ≤ i := hi.1
            obtain ⟨ad3, u, rfl, hK, hcell⟩ := one_cell rfl (Kd.C_below HC2.out HB.out) i h0 hlt
            have HX := Lib.hid (atom_at v.f3 atomR HA.out i h0 hlt)
            have HTK := Lib.hid (take_next v.f3 i h0 hlt)
            clear hi
            generalize rd_T24 v.f3 i = x at HX HTK hK
            have HK : Hid (kG.K w9 x [u]) := Lib.hid (by
              have hk : [u] = [encG x] := hK
              show (if x.f0 = 5 then _ else _)
              rw [if_neg (by have := HX.out.2.1; omega)]
              exact hk)
            have HIF := Lib.hid (kG_if _ _ _ HK.out)
            have hbase := HB.out.size
            clear hK
            rcases HIF.out with rfl | ⟨t3, y3, rfl⟩
            all_goals
              go_wp2_with (first | ((with_reducible refine gate_builtin (b := .append) (xs := #[.tmp 58, .tmp 63]) rfl ?_); at_builtin; refine OwnRow.append (R := kG.K w9) (w0 := w9) w9.heap.size rfl (.tmp 58) (.tmp 63) 39 20 .nilIface 1 16 rfl Try.underlying39 info_iface rfl (by decide) (by decide) u5 (v.f3.take i.toNat) x [_] rfl rfl HK.out rfl (kG.K_one HK.out) HO.out HB.out hbase (by rw [List.length_take]; omega) ?_))
              intro v1 w5 hO1 hB5 _ _
              have HO3 : Hid (ARow w9 w9.heap.size (v.f3.take (i + 1).toNat) v1 w5) := Lib.hid (by rw [HTK.out]; exact hO1)
              have HB5 := Lib.hid hB5
              clear hO1 hB5 hcell
              go_wp2_with fail
              go_roundg g
              case measure => omega
              case rel => exact ⟨i + 1, rfl, Lib.hid (by have := HI.out; omega), HO3, HB5⟩
end Go.Proofs.Ytmiggjncmeomlaa.H

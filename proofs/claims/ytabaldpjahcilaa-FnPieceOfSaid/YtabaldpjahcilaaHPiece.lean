/-
  CONTRACTS: impl.PieceOf and impl.WhereOf: a text with right values is itself (at most 2^20 values).
-/
import Derived.Test.YtabaldpjahcilaaHValOf
import Derived.Test.YtabaldpjahcilaaHRight
namespace Go.Proofs.Ytabaldpjahcilaa.H
open Go.RowKit Go.Proofs.YtabaldpjahcilaaW.PrintWords Go.Proofs.YtabaldpjahcilaaW.PrintLast Go.Proofs.YtabaldpjahcilaaW.PrintMore Go.Proofs.Ytabaldpjahcilaa.QP
set_option linter.unusedVariables false
set_option linter.unusedSimpArgs false

def pieceF (s : ByteArray) (l : List S30) : Option (ByteArray × List S30 × Bool) := if l.length ≤ 1048576 ∧ l.all (fun x => rightB x && decide (x.f3.length ≤ 1048576)) = true then some (s, l, true) else none
theorem pieceF_some {s : ByteArray} {l : List S30} {r : ByteArray × List S30 × Bool} (h : pieceF s l = some r) : l.length ≤ 1048576 ∧ (∀ x ∈ l, rightR x ∧ x.f3.length ≤ 1048576) ∧ r = (s, l, true) := by
  unfold pieceF at h
  split at h
  · rename_i hh
    refine ⟨hh.1, fun x hx => ?_, (Option.some.inj h).symm⟩
    have h1 := List.all_eq_true.1 hh.2 x hx
    rw [Bool.and_eq_true] at h1
    exact ⟨(rightB_iff x).1 h1.1, of_decide_eq_true h1.2⟩
  · cases h
def AnsPost (t : ByteArray) (vs : List S30) (w : World) (e : Ending) (w' : World) : Prop := ∃ v1_ : Value, e = .returned (.tuple #[.string t, v1_, .bool true]) ∧ Kd.R k30 30 w' w.heap.size (fun _ => True) v1_ vs ∧ Below w.heap.size w w'
set_option maxHeartbeats 1600000 in
set_option maxRecDepth 100000 in
/-- impl's answer of a text and arguments, no error. -/
theorem answer_ok (t : ByteArray) (vs : List S30) (h : ∀ x ∈ vs, rightR x ∧ x.f3.length ≤ 1048576) (hl : vs.length ≤ 1048576) (A : Option Addr) (c : Nat) (w : World) (hC : kG.C w A vs.length vs) :
    Calls Try.prog 17 #[.string t, .slice A vs.length c, .nilIface] w (AnsPost t vs w) := by
  have HV := Lib.hid (valuesOf_right vs h hl A c w hC)
  clear h hC
  go_enter Try.func17, Try.ntmps17
  go_wp2_with fail
  refine HV.out.mono ?_
  rintro e w3 ⟨v, rfl, hR, hb⟩
  have HR := Lib.hid hR
  have HB := Lib.hid hb
  clear hR hb HV
  go_wp2_with fail
  go_ret3
  exact ⟨_, rfl, HR.out, HB.out⟩
/-- The methods that an interface's type wants. -/
def wants (P : Program) (T : TypeId) : Array (String × TypeId) := match P.underlying T with
  | some (.interface w) => w
  | _ => #[]
theorem least_some : ∀ (l : List String), l ≠ [] → (Instr.least l).isSome = true
  | [], h => absurd rfl h
  | s :: rest, _ => rfl
def lacksB (P : Program) (T : TypeId) (got : Array Method) : Bool := (wants P T).toList.any fun p => !got.any fun m => m.name == p.1 && m.sig == p.2
theorem missing_some (want : Array (String × TypeId)) (got : Array Method) (h : (want.toList.any fun p => !got.any fun m => m.name == p.1 && m.sig == p.2) = true) : (Instr.missingMethod want got).isSome = true := by
  obtain ⟨p, hp, hq⟩ := List.any_eq_true.1 h
  have hm : p.1 ∈ (want.toList.filter fun (name, sig) => !got.any fun m => m.name == name && m.sig == sig).map (·.1) := List.mem_map.2 ⟨p, List.mem_filter.2 ⟨hp, hq⟩, rfl⟩
  unfold Instr.missingMethod
  generalize ((want.toList.filter fun (name, sig) => !got.any fun m => m.name == name && m.sig == sig).map (·.1)) = L at hm
  simp only [List.partition_eq_filter_filter]
  generalize hE : (L.filter (not ∘ fun x : String => x.contains '.')) = E
  generalize hU : (L.filter fun x : String => x.contains '.') = U
  cases E with
  | cons a t => rfl
  | nil =>
    cases U with
    | cons a t => rfl
    | nil =>
      exfalso
      by_cases hc : p.1.contains '.' = true
      · have : p.1 ∈ L.filter fun x : String => x.contains '.' := List.mem_filter.2 ⟨hm, hc⟩
        rw [hU] at this
        cases this
      · have : p.1 ∈ L.filter (not ∘ fun x : String => x.contains '.') := List.mem_filter.2 ⟨hm, by simpa using hc⟩
        rw [hE] at this
        cases this
/-- A value whose type has not all methods of an interface is none of it. -/
theorem assert_lacks {P : Program} {T t : TypeId} {want : Array (String × TypeId)} {i : TypeInfo} {z : Value} (hu : P.underlying T = some (.interface want)) (hi : P.info? t = some i) (hm : lacksB P T i.methods = true) (xT : TypeId) (v : Value) (W : World) (hz : (zeroValue T).run P W = .ok z W) :
    (Instr.typeAssert (.iface t v) xT T true).run P W = .ok (.tuple #[z, .bool false]) W := by
  have hw : wants P T = want := by
    unfold wants
    rw [hu]
  unfold lacksB at hm
  rw [hw] at hm
  obtain ⟨m, hm⟩ := Option.isSome_iff_exists.1 (missing_some want i.methods hm)
  unfold Instr.typeAssert
  simp only [Sem.run_bind, run_underlying hu, Result.andThen]
  simp [typeInfo, hi, hm, hz, Sem.run_pure, Result.andThen]
theorem zero_is {T : TypeId} (h : (Try.prog.info? T).map (·.zero) = some (some .nilIface)) (w : World) : (zeroValue T).run Try.prog w = .ok .nilIface w := by
  obtain ⟨i, hi, hz⟩ := Option.map_eq_some_iff.1 h
  simp [zeroValue, typeInfo, hi, hz, Result.andThen]
theorem str_no_sqlizer (v : Value) (W : World) : (Instr.typeAssert (.iface 9 v) 20 36 true).run Try.prog W = .ok (.tuple #[.nilIface, .bool false]) W := by
  obtain ⟨i, hi, hm⟩ := Option.map_eq_some_iff.1 (show (Try.prog.info? 9).map (fun i => lacksB Try.prog 36 i.methods) = some true by kernel_rfl)
  exact assert_lacks Try.underlying36 hi hm _ v W (zero_is (by kernel_rfl) W)
theorem str_no_raw (v : Value) (W : World) : (Instr.typeAssert (.iface 9 v) 20 73 true).run Try.prog W = .ok (.tuple #[.nilIface, .bool false]) W := by
  obtain ⟨i, hi, hm⟩ := Option.map_eq_some_iff.1 (show (Try.prog.info? 9).map (fun i => lacksB Try.prog 73 i.methods) = some true by kernel_rfl)
  exact assert_lacks Try.underlying73 hi hm _ v W (zero_is (by kernel_rfl) W)
theorem ta_map_no (t : TypeId) (v : Value) (h : t ≠ 78) (W : World) : (Instr.typeAssert (.iface t v) 20 78 true).run Try.prog W = .ok (.tuple #[.map none, .bool false]) W := by
  obtain ⟨i, hi, hz⟩ := Option.map_eq_some_iff.1 (show (Try.prog.info? 78).map (·.zero) = some (some (.map none)) by kernel_rfl)
  exact assert_no Try.underlying78 (fun _ h => by cases h) hi hz h _ v W
set_option maxHeartbeats 1600000 in
set_option maxRecDepth 100000 in
/-- A part that is a text with arguments. -/
theorem part_sql (s : ByteArray) (A : Option Addr) (n c : Nat) (w : World) :
    Calls Try.prog 37 #[.agg #[.iface 9 (.string s), .slice A n c]] w fun e w' => e = .returned (.tuple #[.string s, .slice A n c, .nilIface]) ∧ Below w.heap.size w w' := by
  have ht := ta_str_yes (.string s)
  have h1 := str_no_sqlizer (.string s)
  go_enter Try.func37, Try.ntmps37
  go_wp2_with fail
  go_ret3
  exact ⟨rfl, below_alloc (Below.refl _ _) _⟩
set_option maxHeartbeats 1600000 in
set_option maxRecDepth 100000 in
theorem where_sql (s : ByteArray) (A : Option Addr) (n c : Nat) (w : World) :
    Calls Try.prog 40 #[.agg #[.iface 9 (.string s), .slice A n c]] w fun e w' => e = .returned (.tuple #[.string s, .slice A n c, .nilIface]) ∧ Below w.heap.size w w' := by
  have ht := ta_str_yes (.string s)
  have h1 := str_no_sqlizer (.string s)
  have h2 := str_no_raw (.string s)
  have h3 := ta_map_no 9 (.string s) (by decide)
  go_enter Try.func40, Try.ntmps40
  go_wp2_with fail
  go_ret3
  exact ⟨rfl, below_alloc (Below.refl _ _) _⟩
theorem not_nil {P : Program} (ts : Array TypeId) (ty : TypeId) (a : Addr) (x y : ByteArray) (w : World) : (Builtin.ssaWrapNilChk_ ts ty #[.pointer (some a), .string x, .string y]).run P w = .ok (.pointer (some a)) w := rfl
/-- A method of a value, called through a pointer that an interface holds. -/
theorem method_ptr {P : Program} {t te : TypeId} {i : TypeInfo} {f : FuncId} {name : String} (hu : P.underlying t = some (.pointer te)) (hi : P.info? t = some i) (hm : (i.methods.find? (·.name == name)).map (fun m => (m.path, m.func)) = some (#[], some (f, false))) (n : Nat) (a : Addr) (w : World) (v : Value) (hl : (loadVar te a).run P w = .ok v w) :
    (method (n + 1) t (.pointer (some a)) name).run P w = .ok (f, v) w := by
  obtain ⟨m, hm, he⟩ := Option.map_eq_some_iff.1 hm
  simp only [Prod.mk.injEq] at he
  obtain ⟨hp, hf⟩ := he
  unfold method
  simp [typeInfo, hi, hm, hp, follow, hf, receiverAt, run_underlying hu, Place.get, strVal, not_nil, asAddr, hl, Result.andThen, Sem.run_pure]
theorem method_part (n b : Nat) (cs : Array Value) (hc : cs.size = 2) (w : World) (hb : w.heap[b]? = some (.cells cs 50 (0, 0))) : (method (n + 1) 48 (.pointer (some ⟨b, 0, none⟩)) "ToSql").run Try.prog w = .ok (37, .agg cs) w := by
  obtain ⟨i, hi, hm⟩ := Option.map_eq_some_iff.1 (show (Try.prog.info? 48).map (fun i => (i.methods.find? (·.name == "ToSql")).map (fun m => (m.path, m.func))) = some (some (#[], some (37, false))) by kernel_rfl)
  exact method_ptr Try.underlying48 hi hm n _ w _ (run_loadVar_row w b _ _ cs (0, 0) _ hb Try.underlying50 rfl (by rw [hc]; kernel_rfl))
theorem method_where (n b : Nat) (cs : Array Value) (hc : cs.size = 2) (w : World) (hb : w.heap[b]? = some (.cells cs 52 (0, 0))) : (method (n + 1) 51 (.pointer (some ⟨b, 0, none⟩)) "ToSql").run Try.prog w = .ok (40, .agg cs) w := by
  obtain ⟨i, hi, hm⟩ := Option.map_eq_some_iff.1 (show (Try.prog.info? 51).map (fun i => (i.methods.find? (·.name == "ToSql")).map (fun m => (m.path, m.func))) = some (some (#[], some (40, false))) by kernel_rfl)
  exact method_ptr Try.underlying51 hi hm n _ w _ (run_loadVar_row w b _ _ cs (0, 0) _ hb Try.underlying52 rfl (by rw [hc]; kernel_rfl))
set_option maxHeartbeats 1600000 in
set_option maxRecDepth 100000 in
theorem told_part (s : ByteArray) (vs : List S30) (h : ∀ x ∈ vs, rightR x ∧ x.f3.length ≤ 1048576) (hl : vs.length ≤ 1048576) (A : Option Addr) (c : Nat) (w : World) (hC : kG.C w A vs.length vs) (b : Nat) (hb : w.heap[b]? = some (.cells #[.iface 9 (.string s), .slice A vs.length c] 50 (0, 0))) :
    Calls Try.prog 11 #[.iface 48 (.pointer (some ⟨b, 0, none⟩))] w (AnsPost s vs w) := by
  have H := Lib.hid h
  have HC := Lib.hid hC
  have hm := fun n => method_part n b _ rfl w hb
  clear h hC hb
  go_enter Try.func11, Try.ntmps11
  go_wp2_with fail
  refine (part_sql s A vs.length c w).mono ?_
  rintro e w1 ⟨rfl, hb1⟩
  have HB1 := Lib.hid hb1
  clear hb1 hm
  go_wp2_with fail
  refine (answer_ok s vs H.out hl A c w1 (Kd.C_below HC.out HB1.out)).mono ?_
  rintro e w2 ⟨v, rfl, hR, hb⟩
  have HR := Lib.hid (Kd.R_lower hR HB1.out.size)
  have HB2 := Lib.hid (HB1.out.trans (hb.mono HB1.out.size))
  clear hR hb
  go_wp2_with fail
  go_ret3
  exact ⟨_, rfl, HR.out, HB2.out⟩
set_option maxHeartbeats 1600000 in
set_option maxRecDepth 100000 in
theorem told_where (s : ByteArray) (vs : List S30) (h : ∀ x ∈ vs, rightR x ∧ x.f3.length ≤ 1048576) (hl : vs.length ≤ 1048576) (A : Option Addr) (c : Nat) (w : World) (hC : kG.C w A vs.length vs) (b : Nat) (hb : w.heap[b]? = some (.cells #[.iface 9 (.string s), .slice A vs.length c] 52 (0, 0))) :
    Calls Try.prog 11 #[.iface 51 (.pointer (some ⟨b, 0, none⟩))] w (AnsPost s vs w) := by
  have H := Lib.hid h
  have HC := Lib.hid hC
  have hm := fun n => method_where n b _ rfl w hb
  clear h hC hb
  go_enter Try.func11, Try.ntmps11
  go_wp2_with fail
  refine (where_sql s A vs.length c w).mono ?_
  rintro e w1 ⟨rfl, hb1⟩
  have HB1 := Lib.hid hb1
  clear hb1 hm
  go_wp2_with fail
  refine (answer_ok s vs H.out hl A c w1 (Kd.C_below HC.out HB1.out)).mono ?_
  rintro e w2 ⟨v, rfl, hR, hb⟩
  have HR := Lib.hid (Kd.R_lower hR HB1.out.size)
  have HB2 := Lib.hid (HB1.out.trans (hb.mono HB1.out.size))
  clear hR hb
  go_wp2_with fail
  go_ret3
  exact ⟨_, rfl, HR.out, HB2.out⟩
theorem info_any : (Try.prog.info? 20).map (fun i => (i.zero, i.size, i.bytes)) = some (some .nilIface, 1, 16) := by kernel_rfl
def impl_PieceOf.f (a0 : ByteArray) (l1 : List S30) : Option (ByteArray × List S30 × Bool) := pieceF a0 l1
set_option maxHeartbeats 1600000 in
set_option maxRecDepth 100000 in
theorem impl_PieceOf.calls (a0 : ByteArray) (A1 : Option Addr) (c1 : Nat) (l1 : List S30) (r1 : ByteArray) (r2 : List S30) (r3 : Bool) (w : World) (hr1 : Kd.C k30 w A1 l1.length l1) (hc1 : l1.length ≤ c1) (h : impl_PieceOf.f a0 l1 = some (r1, r2, r3)) :
    Calls Try.prog 6 #[.string a0, .slice A1 l1.length c1] w fun e w' => ∃ v1_ : Value, e = .returned (.tuple #[.string r1, v1_, .bool r3]) ∧ Kd.R k30 30 w' w.heap.size (fun _ => True) v1_ r2 ∧ Below w.heap.size w w' := by
  obtain ⟨hl, hall, hr⟩ := pieceF_some h
  simp only [Prod.mk.injEq] at hr
  obtain ⟨rfl, rfl, rfl⟩ := hr
  have HALL := Lib.hid hall
  have HG := Lib.hid (goList_of kG rfl kG_if r2 0 (fun x hx => fun A c w' hC hc => right_gives x (hall x hx).1 (hall x hx).2 A c w' hC hc) hl A1 c1 w hr1)
  clear hr1 hc1 h hall
  go_enter Try.func6, Try.ntmps6
  go_wp2_with fail
  refine HG.out.mono ?_
  rintro e w1 ⟨v, rfl, hR, hB⟩
  obtain ⟨A2, c2, e2, hl2, hC2⟩ := Kd.R_reads hR
  subst e2
  have HC2 := Lib.hid hC2
  have HB1 := Lib.hid hB
  clear hR hB hC2 HG
  have HC3 := Lib.hid (Kd.C_below HC2.out (below_alloc (Below.refl _ _) (.cells #[.iface 9 (.string r1), .slice A2 r2.length c2] 50)))
  have HB2 := Lib.hid (below_alloc HB1.out (.cells #[.iface 9 (.string r1), .slice A2 r2.length c2] 50))
  clear HC2
  go_wp2_with (first | (go_at_call 11; refine (told_part r1 r2 HALL.out hl A2 c2 _ HC3.out w1.heap.size (heap_alloc_new w1 _)).mono ?_; rintro e w2 ⟨v, rfl, hR, hb⟩) | go_in)
  have HR := Lib.hid (Kd.R_lower hR HB2.out.size)
  have HB3 := Lib.hid (HB2.out.trans (hb.mono HB2.out.size))
  clear hR hb
  go_wp2_with fail
  go_ret3
  exact ⟨_, rfl, HR.out, HB3.out⟩
def impl_WhereOf.f (a0 : ByteArray) (l1 : List S30) : Option (ByteArray × List S30 × Bool) := pieceF a0 l1
set_option maxHeartbeats 1600000 in
set_option maxRecDepth 100000 in
theorem impl_WhereOf.calls (a0 : ByteArray) (A1 : Option Addr) (c1 : Nat) (l1 : List S30) (r1 : ByteArray) (r2 : List S30) (r3 : Bool) (w : World) (hr1 : Kd.C k30 w A1 l1.length l1) (hc1 : l1.length ≤ c1) (h : impl_WhereOf.f a0 l1 = some (r1, r2, r3)) :
    Calls Try.prog 7 #[.string a0, .slice A1 l1.length c1] w fun e w' => ∃ v1_ : Value, e = .returned (.tuple #[.string r1, v1_, .bool r3]) ∧ Kd.R k30 30 w' w.heap.size (fun _ => True) v1_ r2 ∧ Below w.heap.size w w' := by
  obtain ⟨hl, hall, hr⟩ := pieceF_some h
  simp only [Prod.mk.injEq] at hr
  obtain ⟨rfl, rfl, rfl⟩ := hr
  have HALL := Lib.hid hall
  have HG := Lib.hid (goList_of kG rfl kG_if r2 0 (fun x hx => fun A c w' hC hc => right_gives x (hall x hx).1 (hall x hx).2 A c w' hC hc) hl A1 c1 w hr1)
  clear hr1 hc1 h hall
  go_enter Try.func7, Try.ntmps7
  go_wp2_with fail
  refine HG.out.mono ?_
  rintro e w1 ⟨v, rfl, hR, hB⟩
  obtain ⟨A2, c2, e2, hl2, hC2⟩ := Kd.R_reads hR
  subst e2
  have HC2 := Lib.hid hC2
  have HB1 := Lib.hid hB
  clear hR hB hC2 HG
  have HC3 := Lib.hid (Kd.C_below HC2.out (below_alloc (Below.refl _ _) (.cells #[.iface 9 (.string r1), .slice A2 r2.length c2] 52)))
  have HB2 := Lib.hid (below_alloc HB1.out (.cells #[.iface 9 (.string r1), .slice A2 r2.length c2] 52))
  clear HC2
  go_wp2_with (first | (go_at_call 11; refine (told_where r1 r2 HALL.out hl A2 c2 _ HC3.out w1.heap.size (heap_alloc_new w1 _)).mono ?_; rintro e w2 ⟨v, rfl, hR, hb⟩) | go_in)
  have HR := Lib.hid (Kd.R_lower hR HB2.out.size)
  have HB3 := Lib.hid (HB2.out.trans (hb.mono HB2.out.size))
  clear hR hb
  go_wp2_with fail
  go_ret3
  exact ⟨_, rfl, HR.out, HB3.out⟩
end Go.Proofs.Ytabaldpjahcilaa.H

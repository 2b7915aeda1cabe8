/-
  CONTRACTS: squirrel's zzText of a value that is no list, and Expr's ToSql of such (a world in which strconv's table lies).
-/
import Derived.Test.YtabaldpjahcilaaDoorHDbgL
import Derived.Test.YtabaldpjahcilaaDoorHValOf
import Derived.Test.YtabaldpjahcilaaDoorHRow
import Derived.Deep.QuietTactic
import Derived.BigQuiet
namespace Go.Proofs.YtabaldpjahcilaaDoor.H
open Go.RowKit Go.Proofs.YtabaldpjahcilaaDoorW.PrintWords Go.Proofs.YtabaldpjahcilaaDoorW.PrintLast Go.Proofs.YtabaldpjahcilaaDoorW.PrintMore Go.Proofs.YtabaldpjahcilaaDoor.QD
set_option linter.unusedVariables false
set_option linter.unusedSimpArgs false

/-- The methods that an interface's type wants. -/
def wants (P : Program) (T : TypeId) : Array (String × TypeId) := match P.underlying T with
  | some (.interface w) => w
  | _ => #[]
theorem least_some : ∀ (l : List String), l ≠ [] → (Instr.least l).isSome = true
  | [], h => absurd rfl h
  | s :: rest, _ => rfl
def lacksB (P : Program) (T : TypeId) (got : Array Method) : Bool := (wants P T).toList.any fun p => !got.any fun m => m.name == p.1 && m.sig == p.2
theorem missing_some (want : Array (String × TypeId)) (got : Array Method) (h : (want.toList.any fun p => !got.any fun m => m.name == p.1 && m.sig == p.2) = true) : (Instr.missingMethod want got).isSome = true := by
  obtain ⟨p, hp, hq⟩ := List.any_eq_true.1 h
  have hm : p.1 ∈ (want.toList.filter fun (name, sig) => !got.any fun m => m.name == name && m.sig == sig).map (·.1) := List.mem_map.2 ⟨p, List.mem_filter.2 ⟨hp, hq⟩, rfl⟩
  unfold Instr.missingMethod
  generalize ((want.toList.filter fun (name, sig) => !got.any fun m => m.name == name && m.sig == sig).map (·.1)) = L at hm
  simp only [List.partition_eq_filter_filter]
  generalize hE : (L.filter (not ∘ fun x : String => x.contains '.')) = E
  generalize hU : (L.filter fun x : String => x.contains '.') = U
  cases E with
  | cons a t => rfl
  | nil =>
    cases U with
    | cons a t => rfl
    | nil =>
      exfalso
      by_cases hc : p.1.contains '.' = true
      · have : p.1 ∈ L.filter fun x : String => x.contains '.' := List.mem_filter.2 ⟨hm, hc⟩
        rw [hU] at this
        cases this
      · have : p.1 ∈ L.filter (not ∘ fun x : String => x.contains '.') := List.mem_filter.2 ⟨hm, by simpa using hc⟩
        rw [hE] at this
        cases this
/-- A value whose type has not all methods of an interface is none of it. -/
theorem assert_lacks {P : Program} {T t : TypeId} {want : Array (String × TypeId)} {i : TypeInfo} {z : Value} (hu : P.underlying T = some (.interface want)) (hi : P.info? t = some i) (hm : lacksB P T i.methods = true) (xT : TypeId) (v : Value) (W : World) (hz : (zeroValue T).run P W = .ok z W) :
    (Instr.typeAssert (.iface t v) xT T true).run P W = .ok (.tuple #[z, .bool false]) W := by
  have hw : wants P T = want := by
    unfold wants
    rw [hu]
  unfold lacksB at hm
  rw [hw] at hm
  obtain ⟨m, hm⟩ := Option.isSome_iff_exists.1 (missing_some want i.methods hm)
  unfold Instr.typeAssert
  simp only [Sem.run_bind, run_underlying hu, Result.andThen]
  simp [typeInfo, hi, hm, hz, Sem.run_pure, Result.andThen]
theorem zero_is {T : TypeId} (h : (Tryd.prog.info? T).map (·.zero) = some (some .nilIface)) (w : World) : (zeroValue T).run Tryd.prog w = .ok .nilIface w := by
  obtain ⟨i, hi, hz⟩ := Option.map_eq_some_iff.1 h
  simp [zeroValue, typeInfo, hi, hz, Result.andThen]
theorem lacks_nil {P : Program} {T : TypeId} {want : Array (String × TypeId)} {z : Value} (hu : P.underlying T = some (.interface want)) (xT : TypeId) (W : World) (hz : (zeroValue T).run P W = .ok z W) :
    (Instr.typeAssert .nilIface xT T true).run P W = .ok (.tuple #[z, .bool false]) W := by
  unfold Instr.typeAssert
  simp only [Sem.run_bind, run_underlying hu, Result.andThen]
  simp [hz, Sem.run_pure, Result.andThen]
theorem int_no_sqlizer (v : Value) (W : World) : (Instr.typeAssert (.iface 2 v) 20 41 true).run Tryd.prog W = .ok (.tuple #[.nilIface, .bool false]) W := by
  obtain ⟨i, hi, hm⟩ := Option.map_eq_some_iff.1 (show (Tryd.prog.info? 2).map (fun i => lacksB Tryd.prog 41 i.methods) = some true by kernel_rfl)
  exact assert_lacks Tryd.underlying41 hi hm _ v W (zero_is (by kernel_rfl) W)
theorem str_no_sqlizer (v : Value) (W : World) : (Instr.typeAssert (.iface 9 v) 20 41 true).run Tryd.prog W = .ok (.tuple #[.nilIface, .bool false]) W := by
  obtain ⟨i, hi, hm⟩ := Option.map_eq_some_iff.1 (show (Tryd.prog.info? 9).map (fun i => lacksB Tryd.prog 41 i.methods) = some true by kernel_rfl)
  exact assert_lacks Tryd.underlying41 hi hm _ v W (zero_is (by kernel_rfl) W)
theorem bool_no_sqlizer (v : Value) (W : World) : (Instr.typeAssert (.iface 4 v) 20 41 true).run Tryd.prog W = .ok (.tuple #[.nilIface, .bool false]) W := by
  obtain ⟨i, hi, hm⟩ := Option.map_eq_some_iff.1 (show (Tryd.prog.info? 4).map (fun i => lacksB Tryd.prog 41 i.methods) = some true by kernel_rfl)
  exact assert_lacks Tryd.underlying41 hi hm _ v W (zero_is (by kernel_rfl) W)
theorem expr_no_debugger (v : Value) (W : World) : (Instr.typeAssert (.iface 71 v) 41 58 true).run Tryd.prog W = .ok (.tuple #[.nilIface, .bool false]) W := by
  obtain ⟨i, hi, hm⟩ := Option.map_eq_some_iff.1 (show (Tryd.prog.info? 71).map (fun i => lacksB Tryd.prog 58 i.methods) = some true by kernel_rfl)
  exact assert_lacks Tryd.underlying58 hi hm _ v W (zero_is (by kernel_rfl) W)
theorem nil_no_sqlizer (W : World) : (Instr.typeAssert .nilIface 20 41 true).run Tryd.prog W = .ok (.tuple #[.nilIface, .bool false]) W := lacks_nil Tryd.underlying41 _ W (zero_is (by kernel_rfl) W)
/-- No value that is no list is a piece. -/
theorem enc_no_sqlizer (x : S27) (W : World) : (Instr.typeAssert (encG x) 20 41 true).run Tryd.prog W = .ok (.tuple #[.nilIface, .bool false]) W := by
  unfold encG
  split
  · exact int_no_sqlizer _ W
  · split
    · exact str_no_sqlizer _ W
    · split
      · exact bool_no_sqlizer _ W
      · split
        · exact bool_no_sqlizer _ W
        · exact nil_no_sqlizer W
def numR (x : S27) : Prop := -9223372036854775808 ≤ x.f1 ∧ x.f1 ≤ 9223372036854775807
theorem ret_txt {a b : ByteArray} (h : a = b) : Ending.returned (.string a) = .returned (.string b) := by rw [h]
set_option maxHeartbeats 1600000 in
set_option maxRecDepth 100000 in
theorem text_is (x : S27) (hx : atomR x) (hn : numR x) (w : World) (ht : Tab w) :
    Calls Tryd.prog 27 #[encG x] w fun e w' => e = .returned (.string ⟨(shw x).toArray⟩) ∧ Below w.heap.size w w' := by
  obtain ⟨h0, h4, hl, h1, h2⟩ := hx
  obtain ⟨hn0, hn1⟩ := hn
  have HT := Lib.hid ht
  clear ht
  obtain ⟨k, n, t, l⟩ := x
  simp only [] at h0 h4 hl h1 h2 hn0 hn1
  subst hl
  have : k = 0 ∨ k = 1 ∨ k = 2 ∨ k = 3 ∨ k = 4 := by omega
  rcases this with rfl | rfl | rfl | rfl | rfl
  · show Calls _ _ #[.nilIface] _ _
    go_enter Tryd.func27, Tryd.ntmps27
    go_wp2_with fail
    go_ret
    exact ⟨ret_txt (by simp [shw]), Below.refl _ _⟩
  · show Calls _ _ #[.iface 2 (.int .i64 n)] _ _
    have t1 := ta_str_no 2 (.int .i64 n) (by decide)
    have t2 := ta_int_yes (.int .i64 n)
    go_enter Tryd.func27, Tryd.ntmps27
    go_wp2_with fail
    refine (fmt_at n hn0 hn1 _ HT.out).mono ?_
    rintro e w1 ⟨rfl, hb⟩
    go_wp2_with fail
    go_ret
    exact ⟨ret_txt (by simp [shw]), hb⟩
  · show Calls _ _ #[.iface 9 (.string t)] _ _
    have t1 := ta_str_yes (.string t)
    go_enter Tryd.func27, Tryd.ntmps27
    go_wp2_with fail
    go_ret
    exact ⟨ret_txt (by simp [shw]), Below.refl _ _⟩
  · show Calls _ _ #[.iface 4 (.bool true)] _ _
    have t1 := ta_str_no 4 (.bool true) (by decide)
    have t2 := ta_int_no 4 (.bool true) (by decide)
    have t3 := ta_bool_yes (.bool true)
    go_enter Tryd.func27, Tryd.ntmps27
    go_wp2_with fail
    go_ret
    exact ⟨ret_txt (by simp [shw]), Below.refl _ _⟩
  · show Calls _ _ #[.iface 4 (.bool false)] _ _
    have t1 := ta_str_no 4 (.bool false) (by decide)
    have t2 := ta_int_no 4 (.bool false) (by decide)
    have t3 := ta_bool_yes (.bool false)
    go_enter Tryd.func27, Tryd.ntmps27
    go_wp2_with fail
    go_ret
    exact ⟨ret_txt (by simp [shw]), Below.refl _ _⟩
set_option maxHeartbeats 3200000 in
set_option maxRecDepth 100000 in
/-- Expr of a text with values that are no lists is they. -/
theorem expr_sql (s : ByteArray) (l : List S27) (hl : l.length ≤ 1048576) (A : Option Addr) (c : Nat) (w : World) (hC : kGA.C w A l.length l) :
    Calls Tryd.prog 107 #[.agg #[.string s, .slice A l.length c]] w fun e w' => e = .returned (.tuple #[.string s, .slice A l.length c, .nilIface]) ∧ Below w.heap.size w w' := by
  have HC := Lib.hid hC
  clear hC
  go_enter Tryd.func107, Tryd.ntmps107
  go_wp2_with fail
  go_loopg [5, 21] l.length (fun g v5 v21 w' => ∃ (i : Int), v5 = .bool true ∧ v21 = .int .i64 i ∧ Hid (0 ≤ i ∧ i + g = l.length) ∧ w'.heap[w.heap.size]? = some (.cells #[.string s, .slice A l.length c] 71 (0, 0)) ∧ Hid (Below w.heap.size w w'))
  case atStart => exact ⟨0, rfl, rfl, Lib.hid ⟨by omega, by omega⟩, heap_alloc_new w _, Lib.hid (one_below _ _)⟩
  case round =>
    obtain ⟨i, rfl, rfl, HI, hrow, HB⟩ := hrel
    have hi := HI.out
    cases gk with
    | zero =>
      have hge : ¬ i < (l.length : Int) := by omega
      have c0 := cell_of_row wr w.heap.size 0 _ _ _ hrow
      have c1 := cell_of_row wr w.heap.size 1 _ _ _ hrow
      simp only [List.getElem?_toArray, List.getElem?_cons_zero, List.getElem?_cons_succ] at c0 c1
      clear hi hrow
      go_wp2_with fail
      go_quiet (fail)
      go_wp2_with fail
      go_ret3
      exact ⟨rfl, pw_below_drewN HB.out _⟩
    | succ g =>
      have hlt : i < (l.length : Int) := by omega
      have h0 : 0 ≤ i := hi.1
      obtain ⟨ad, u, rfl, hK, hcell⟩ := one_cell rfl (Kd.C_below HC.out HB.out) i h0 hlt
      have hu : u = encG (rd_T27 l i) := by
        have hk : [u] = [encG (rd_T27 l i)] := hK
        injection hk
      subst hu
      have hno := enc_no_sqlizer (rd_T27 l i)
      clear hi hK
      generalize encG (rd_T27 l i) = u at hcell hno
      go_wp2_with fail
      go_roundg g
      case measure => omega
      case rel => exact ⟨i + 1, rfl, rfl, Lib.hid (by have := HI.out; omega), hrow, HB⟩
end Go.Proofs.YtabaldpjahcilaaDoor.H

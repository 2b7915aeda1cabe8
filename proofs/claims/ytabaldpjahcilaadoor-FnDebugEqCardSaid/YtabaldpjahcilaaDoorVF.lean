/-
  MERGED BY A PROGRAM OF THIS SESSION (wip/pack.py): HDbgL, HText, HDebug, HEq, HEqI.
-/
import Derived.Test.YtabaldpjahcilaaDoorVE
import Derived.Lib.ItoaLen
import Derived.Test.YtabaldpjahcilaaDoorVB
import Derived.Deep.QuietTactic
import Derived.BigQuiet
import Derived.Handy
import Derived.Lib.Hide
import Derived.Outline
import Derived.Deep.LoopGhost
import Derived.Lib.BufferMore
/-
  PLAIN: what squirrel's DebugSqlizer comes to: values in apostrophes for question marks; two side by side are one; with too few, or too many values it says so.
-/
namespace Go.Proofs.YtabaldpjahcilaaDoor.H
open Go.RowKit Go.Proofs.YtabaldpjahcilaaDoorW.PrintWords Go.Proofs.YtabaldpjahcilaaDoorW.PrintLast Go.Proofs.YtabaldpjahcilaaDoorW.PrintMore Go.Proofs.YtabaldpjahcilaaDoor.QD
set_option linter.unusedVariables false
set_option linter.unusedSimpArgs false

/-- A value as people read it. -/
def shw (x : S27) : List UInt8 := if x.f0 = 1 then Lib.itoa x.f1 else if x.f0 = 2 then x.f2.data.toList else if x.f0 = 3 then [116, 114, 117, 101] else if x.f0 = 4 then [102, 97, 108, 115, 101] else [60, 110, 105, 108, 62]
def quoL (x : S27) : List UInt8 := 39 :: shw x ++ [39]
def tooM : List UInt8 := [91, 68, 101, 98, 117, 103, 83, 113, 108, 105, 122, 101, 114, 32, 101, 114, 114, 111, 114, 58, 32, 116, 111, 111, 32, 109, 97, 110, 121, 32, 112, 108, 97, 99, 101, 104, 111, 108, 100, 101, 114, 115, 93]
def notE : List UInt8 := [91, 68, 101, 98, 117, 103, 83, 113, 108, 105, 122, 101, 114, 32, 101, 114, 114, 111, 114, 58, 32, 110, 111, 116, 32, 101, 110, 111, 117, 103, 104, 32, 112, 108, 97, 99, 101, 104, 111, 108, 100, 101, 114, 115, 93]
def dbgL : List UInt8 → List S27 → List UInt8 → List UInt8
  | [], l, acc => if l = [] then acc else notE
  | [c], l, acc => if c = 63 then (match l with
      | [] => tooM
      | x :: xs => if xs = [] then acc ++ quoL x else notE) else (if l = [] then acc ++ [c] else notE)
  | c :: d :: t, l, acc => if c = 63 then (if d = 63 then dbgL t l (acc ++ [63]) else (match l with
      | [] => tooM
      | x :: xs => dbgL (d :: t) xs (acc ++ quoL x))) else dbgL (d :: t) l (acc ++ [c])
theorem dbg_other {c : UInt8} (h : c ≠ 63) (t : List UInt8) (l : List S27) (acc : List UInt8) : dbgL (c :: t) l acc = dbgL t l (acc ++ [c]) := by
  cases t <;> simp [dbgL, h]
theorem dbg_two (t : List UInt8) (l : List S27) (acc : List UInt8) : dbgL (63 :: 63 :: t) l acc = dbgL t l (acc ++ [63]) := by
  simp [dbgL]
theorem dbg_one (t : List UInt8) (h : t.head? ≠ some 63) (x : S27) (xs : List S27) (acc : List UInt8) : dbgL (63 :: t) (x :: xs) acc = dbgL t xs (acc ++ quoL x) := by
  cases t with
  | nil => simp [dbgL]
  | cons d u =>
    have hd : d ≠ 63 := by simpa using h
    simp [dbgL, hd]
theorem dbg_none (t : List UInt8) (h : t.head? ≠ some 63) (acc : List UInt8) : dbgL (63 :: t) [] acc = tooM := by
  cases t with
  | nil => simp [dbgL]
  | cons d u =>
    have hd : d ≠ 63 := by simpa using h
    simp [dbgL, hd]
theorem dbg_pre (l : List S27) : ∀ (pre rest acc : List UInt8), (∀ c ∈ pre, c ≠ 63) → dbgL (pre ++ rest) l acc = dbgL rest l (acc ++ pre)
  | [], rest, acc, h => by rw [List.append_nil]; rfl
  | c :: t, rest, acc, h => by
    have h1 := List.forall_mem_cons.1 h
    rw [List.cons_append, dbg_other h1.1, dbg_pre l t rest _ h1.2, List.append_assoc]
    rfl
theorem dbg_end (l : List S27) (rest acc : List UInt8) (h : ∀ c ∈ rest, c ≠ 63) : dbgL rest l acc = if l = [] then acc ++ rest else notE := by
  have := dbg_pre l rest [] acc h
  rw [List.append_nil] at this
  rw [this]
  simp [dbgL]
theorem shw_len (x : S27) (hf : -9223372036854775808 ≤ x.f1) (hf2 : x.f1 ≤ 9223372036854775807) : (shw x).length ≤ 21 + x.f2.size := by
  unfold shw
  have hi := Lib.itoa_length_le x.f1 hf hf2
  have hl : x.f2.data.toList.length = x.f2.size := Array.length_toList
  split
  · omega
  · split
    · omega
    · split
      · show 4 ≤ _
        omega
      · split
        · show 5 ≤ _
          omega
        · show 5 ≤ _
          omega
end Go.Proofs.YtabaldpjahcilaaDoor.H
/-
  CONTRACTS: squirrel's zzText of a value that is no list, and Expr's ToSql of such (a world in which strconv's table lies).
-/
namespace Go.Proofs.YtabaldpjahcilaaDoor.H
open Go.RowKit Go.Proofs.YtabaldpjahcilaaDoorW.PrintWords Go.Proofs.YtabaldpjahcilaaDoorW.PrintLast Go.Proofs.YtabaldpjahcilaaDoorW.PrintMore Go.Proofs.YtabaldpjahcilaaDoor.QD
set_option linter.unusedVariables false
set_option linter.unusedSimpArgs false

/-- The methods that an interface's type wants. -/
def wants (P : Program) (T : TypeId) : Array (String × TypeId) := match P.underlying T with
  | some (.interface w) => w
  | _ => #[]
def lacksB (P : Program) (T : TypeId) (got : Array Method) : Bool := (wants P T).toList.any fun p => !got.any fun m => m.name == p.1 && m.sig == p.2
theorem missing_some (want : Array (String × TypeId)) (got : Array Method) (h : (want.toList.any fun p => !got.any fun m => m.name == p.1 && m.sig == p.2) = true) : (Instr.missingMethod want got).isSome = true := by
  obtain ⟨p, hp, hq⟩ := List.any_eq_true.1 h
  have hm : p.1 ∈ (want.toList.filter fun (name, sig) => !got.any fun m => m.name == name && m.sig == sig).map (·.1) := List.mem_map.2 ⟨p, List.mem_filter.2 ⟨hp, hq⟩, rfl⟩
  unfold Instr.missingMethod
  generalize ((want.toList.filter fun (name, sig) => !got.any fun m => m.name == name && m.sig == sig).map (·.1)) = L at hm
  simp only [List.partition_eq_filter_filter]
  generalize hE : (L.filter (not ∘ fun x : String => x.contains '.')) = E
  generalize hU : (L.filter fun x : String => x.contains '.') = U
  cases E with
  | cons a t => rfl
  | nil =>
    cases U with
    | cons a t => rfl
    | nil =>
      exfalso
      by_cases hc : p.1.contains '.' = true
      · have : p.1 ∈ L.filter fun x : String => x.contains '.' := List.mem_filter.2 ⟨hm, hc⟩
        rw [hU] at this
        cases this
      · have : p.1 ∈ L.filter (not ∘ fun x : String => x.contains '.') := List.mem_filter.2 ⟨hm, by simpa using hc⟩
        rw [hE] at this
        cases this
/-- A value whose type has not all methods of an interface is none of it. -/
theorem assert_lacks {P : Program} {T t : TypeId} {want : Array (String × TypeId)} {i : TypeInfo} {z : Value} (hu : P.underlying T = some (.interface want)) (hi : P.info? t = some i) (hm : lacksB P T i.methods = true) (xT : TypeId) (v : Value) (W : World) (hz : (zeroValue T).run P W = .ok z W) :
    (Instr.typeAssert (.iface t v) xT T true).run P W = .ok (.tuple #[z, .bool false]) W := by
  have hw : wants P T = want := by
    unfold wants
    rw [hu]
  unfold lacksB at hm
  rw [hw] at hm
  obtain ⟨m, hm⟩ := Option.isSome_iff_exists.1 (missing_some want i.methods hm)
  unfold Instr.typeAssert
  simp only [Sem.run_bind, run_underlying hu, Result.andThen]
  simp [typeInfo, hi, hm, hz, Sem.run_pure, Result.andThen]
theorem zero_is {T : TypeId} (h : (Tryd.prog.info? T).map (·.zero) = some (some .nilIface)) (w : World) : (zeroValue T).run Tryd.prog w = .ok .nilIface w := by
  obtain ⟨i, hi, hz⟩ := Option.map_eq_some_iff.1 h
  simp [zeroValue, typeInfo, hi, hz, Result.andThen]
theorem lacks_nil {P : Program} {T : TypeId} {want : Array (String × TypeId)} {z : Value} (hu : P.underlying T = some (.interface want)) (xT : TypeId) (W : World) (hz : (zeroValue T).run P W = .ok z W) :
    (Instr.typeAssert .nilIface xT T true).run P W = .ok (.tuple #[z, .bool false]) W := by
  unfold Instr.typeAssert
  simp only [Sem.run_bind, run_underlying hu, Result.andThen]
  simp [hz, Sem.run_pure, Result.andThen]
theorem int_no_sqlizer (v : Value) (W : World) : (Instr.typeAssert (.iface 2 v) 20 41 true).run Tryd.prog W = .ok (.tuple #[.nilIface, .bool false]) W := by
  obtain ⟨i, hi, hm⟩ := Option.map_eq_some_iff.1 (show (Tryd.prog.info? 2).map (fun i => lacksB Tryd.prog 41 i.methods) = some true by kernel_rfl)
  exact assert_lacks Tryd.underlying41 hi hm _ v W (zero_is (by kernel_rfl) W)
theorem str_no_sqlizer (v : Value) (W : World) : (Instr.typeAssert (.iface 9 v) 20 41 true).run Tryd.prog W = .ok (.tuple #[.nilIface, .bool false]) W := by
  obtain ⟨i, hi, hm⟩ := Option.map_eq_some_iff.1 (show (Tryd.prog.info? 9).map (fun i => lacksB Tryd.prog 41 i.methods) = some true by kernel_rfl)
  exact assert_lacks Tryd.underlying41 hi hm _ v W (zero_is (by kernel_rfl) W)
theorem bool_no_sqlizer (v : Value) (W : World) : (Instr.typeAssert (.iface 4 v) 20 41 true).run Tryd.prog W = .ok (.tuple #[.nilIface, .bool false]) W := by
  obtain ⟨i, hi, hm⟩ := Option.map_eq_some_iff.1 (show (Tryd.prog.info? 4).map (fun i => lacksB Tryd.prog 41 i.methods) = some true by kernel_rfl)
  exact assert_lacks Tryd.underlying41 hi hm _ v W (zero_is (by kernel_rfl) W)
theorem expr_no_debugger (v : Value) (W : World) : (Instr.typeAssert (.iface 71 v) 41 58 true).run Tryd.prog W = .ok (.tuple #[.nilIface, .bool false]) W := by
  obtain ⟨i, hi, hm⟩ := Option.map_eq_some_iff.1 (show (Tryd.prog.info? 71).map (fun i => lacksB Tryd.prog 58 i.methods) = some true by kernel_rfl)
  exact assert_lacks Tryd.underlying58 hi hm _ v W (zero_is (by kernel_rfl) W)
theorem nil_no_sqlizer (W : World) : (Instr.typeAssert .nilIface 20 41 true).run Tryd.prog W = .ok (.tuple #[.nilIface, .bool false]) W := lacks_nil Tryd.underlying41 _ W (zero_is (by kernel_rfl) W)
/-- No value that is no list is a piece. -/
theorem enc_no_sqlizer (x : S27) (W : World) : (Instr.typeAssert (encG x) 20 41 true).run Tryd.prog W = .ok (.tuple #[.nilIface, .bool false]) W := by
  unfold encG
  split
  · exact int_no_sqlizer _ W
  · split
    · exact str_no_sqlizer _ W
    · split
      · exact bool_no_sqlizer _ W
      · split
        · exact bool_no_sqlizer _ W
        · exact nil_no_sqlizer W
def numR (x : S27) : Prop := -9223372036854775808 ≤ x.f1 ∧ x.f1 ≤ 9223372036854775807
theorem ret_txt {a b : ByteArray} (h : a = b) : Ending.returned (.string a) = .returned (.string b) := by rw [h]
set_option maxHeartbeats 1600000 in
set_option maxRecDepth 100000 in
theorem text_is (x : S27) (hx : atomR x) (hn : numR x) (w : World) (ht : Tab w) :
    Calls Tryd.prog 27 #[encG x] w fun e w' => e = .returned (.string ⟨(shw x).toArray⟩) ∧ Below w.heap.size w w' := by
  obtain ⟨h0, h4, hl, h1, h2⟩ := hx
  obtain ⟨hn0, hn1⟩ := hn
  have HT := Lib.hid ht
  clear ht
  obtain ⟨k, n, t, l⟩ := x
  simp only [] at h0 h4 hl h1 h2 hn0 hn1
  subst hl
  have : k = 0 ∨ k = 1 ∨ k = 2 ∨ k = 3 ∨ k = 4 := by omega
  rcases this with rfl | rfl | rfl | rfl | rfl
  · show Calls _ _ #[.nilIface] _ _
    go_enter Tryd.func27, Tryd.ntmps27
    go_wp2_with fail
    go_ret
    exact ⟨ret_txt (by simp [shw]), Below.refl _ _⟩
  · show Calls _ _ #[.iface 2 (.int .i64 n)] _ _
    have t1 := ta_str_no 2 (.int .i64 n) (by decide)
    have t2 := ta_int_yes (.int .i64 n)
    go_enter Tryd.func27, Tryd.ntmps27
    go_wp2_with fail
    refine (fmt_at n hn0 hn1 _ HT.out).mono ?_
    rintro e w1 ⟨rfl, hb⟩
    go_wp2_with fail
    go_ret
    exact ⟨ret_txt (by simp [shw]), hb⟩
  · show Calls _ _ #[.iface 9 (.string t)] _ _
    have t1 := ta_str_yes (.string t)
    go_enter Tryd.func27, Tryd.ntmps27
    go_wp2_with fail
    go_ret
    exact ⟨ret_txt (by simp [shw]), Below.refl _ _⟩
  · show Calls _ _ #[.iface 4 (.bool true)] _ _
    have t1 := ta_str_no 4 (.bool true) (by decide)
    have t2 := ta_int_no 4 (.bool true) (by decide)
    have t3 := ta_bool_yes (.bool true)
    go_enter Tryd.func27, Tryd.ntmps27
    go_wp2_with fail
    go_ret
    exact ⟨ret_txt (by simp [shw]), Below.refl _ _⟩
  · show Calls _ _ #[.iface 4 (.bool false)] _ _
    have t1 := ta_str_no 4 (.bool false) (by decide)
    have t2 := ta_int_no 4 (.bool false) (by decide)
    have t3 := ta_bool_yes (.bool false)
    go_enter Tryd.func27, Tryd.ntmps27
    go_wp2_with fail
    go_ret
    exact ⟨ret_txt (by simp [shw]), Below.refl _ _⟩
set_option maxHeartbeats 3200000 in
set_option maxRecDepth 100000 in
/-- Expr of a text with values that are no lists is they. -/
theorem expr_sql (s : ByteArray) (l : List S27) (hl : l.length ≤ 1048576) (A : Option Addr) (c : Nat) (w : World) (hC : kGA.C w A l.length l) :
    Calls Tryd.prog 107 #[.agg #[.string s, .slice A l.length c]] w fun e w' => e = .returned (.tuple #[.string s, .slice A l.length c, .nilIface]) ∧ Below w.heap.size w w' := by
  have HC := Lib.hid hC
  clear hC
  go_enter Tryd.func107, Tryd.ntmps107
  go_wp2_with fail
  go_loopg [5, 21] l.length (fun g v5 v21 w' => ∃ (i : Int), v5 = .bool true ∧ v21 = .int .i64 i ∧ Hid (0 ≤ i ∧ i + g = l.length) ∧ w'.heap[w.heap.size]? = some (.cells #[.string s, .slice A l.length c] 71 (0, 0)) ∧ Hid (Below w.heap.size w w'))
  case atStart => exact ⟨0, rfl, rfl, Lib.hid ⟨by omega, by omega⟩, heap_alloc_new w _, Lib.hid (one_below _ _)⟩
  case round =>
    obtain ⟨i, rfl, rfl, HI, hrow, HB⟩ := hrel
    have hi := HI.out
    cases gk with
    | zero =>
      have hge : ¬ i < (l.length : Int) := by omega
      have c0 := cell_of_row wr w.heap.size 0 _ _ _ hrow
      have c1 := cell_of_row wr w.heap.size 1 _ _ _ hrow
      simp only [List.getElem?_toArray, List.getElem?_cons_zero, List.getElem?_cons_succ] at c0 c1
      clear hi hrow
      go_wp2_with fail
      go_quiet (fail)
      go_wp2_with fail
      go_ret3
      exact ⟨rfl, pw_below_drewN HB.out _⟩
    | succ g =>
      have hlt : i < (l.length : Int) := by omega
      have h0 : 0 ≤ i := hi.1
      obtain ⟨ad, u, rfl, hK, hcell⟩ := one_cell rfl (Kd.C_below HC.out HB.out) i h0 hlt
      have hu : u = encG (rd_T27 l i) := by
        have hk : [u] = [encG (rd_T27 l i)] := hK
        injection hk
      subst hu
      have hno := enc_no_sqlizer (rd_T27 l i)
      clear hi hK
      generalize encG (rd_T27 l i) = u at hcell hno
      go_wp2_with fail
      go_roundg g
      case measure => omega
      case rel => exact ⟨i + 1, rfl, rfl, Lib.hid (by have := HI.out; omega), hrow, HB⟩
end Go.Proofs.YtabaldpjahcilaaDoor.H
/-
  CONTRACTS: squirrel's DebugSqlizer of Expr of a text with values that are no lists, and impl.Debug (texts of at most 2^20 bytes, at most 1024 values, texts in them of at most 1024 bytes; a world in which strconv's table lies), by the shelf's contracts of bytes.Buffer.
-/
namespace Go.Proofs.YtabaldpjahcilaaDoor.H
open Go.RowKit Go.Proofs.YtabaldpjahcilaaDoorW.PrintWords Go.Proofs.YtabaldpjahcilaaDoorW.PrintLast Go.Proofs.YtabaldpjahcilaaDoorW.PrintMore Go.Proofs.YtabaldpjahcilaaDoor.QL Go.Proofs.YtabaldpjahcilaaDoor.QD
set_option linter.unusedVariables false
set_option linter.unusedSimpArgs false

theorem bytes_app (a b : ByteArray) : (a ++ b).data.toList = a.data.toList ++ b.data.toList := by simp
theorem buf_below {B b : Nat} {l : List UInt8} {w w2 : World} (h : Buf B b l w) (hB : B ≤ w.heap.size) (k : Below w.heap.size w w2) : Buf B b l w2 := by
  obtain ⟨h1, v, lr, hb, ho, hne⟩ := h
  refine ⟨h1, v, lr, (k.block b (Array.getElem?_eq_some_iff.1 hb).1).trans hb, ⟨ho.1, ?_⟩, hne⟩
  rcases ho.2 with hn | ⟨g, cap, cur, hv, hg0, hg, rest⟩
  · exact .inl hn
  · exact .inr ⟨g, cap, cur, hv, hg0, (k.block g (Array.getElem?_eq_some_iff.1 hg).1).trans hg, rest⟩
theorem extract_end (s : ByteArray) (n : Nat) : (s.extract n s.size).data.toList = s.data.toList.drop n := by
  have hl : s.data.toList.length = s.size := Array.length_toList
  rw [ByteArray.data_extract, Array.toList_extract, List.extract_eq_take_drop]
  exact List.take_of_length_le (by rw [List.length_drop, hl]; omega)
theorem below_chain {w w0 w1 : World} (h : Below w.heap.size w w0) (k : Below w0.heap.size w0 w1) : Below w.heap.size w w1 := below_step h k
/-- What is asked of a value. -/
def dbgR (x : S27) : Prop := atomR x ∧ numR x ∧ x.f2.size ≤ 1024
theorem quo_size (x : S27) (h : dbgR x) : (quoL x).length ≤ 1050 := by
  have h1 := shw_len x h.2.1.1 h.2.1.2
  have h2 := h.2.2
  unfold quoL
  rw [List.length_append, List.length_cons, List.length_singleton]
  omega
def debF (s : ByteArray) (l : List S27) : ByteArray := ⟨(dbgL s.data.toList l []).toArray⟩
/-- The loop's state: at most g bytes are left. -/
def DgRel (s : ByteArray) (l : List S27) (R : List UInt8) (B g : Nat) (q : ByteArray) (j : Int) (w' : World) : Prop :=
  q.size ≤ g ∧ 0 ≤ j ∧ j ≤ l.length ∧ q.size ≤ s.size ∧ B ≤ w'.heap.size ∧ ∃ acc : List UInt8, Buf B B acc w' ∧ dbgL q.data.toList (l.drop j.toNat) acc = R ∧ acc.length + q.size + 1100 * (l.length - j.toNat) ≤ s.size + 1100 * l.length
set_option maxHeartbeats 25600000 in
set_option maxRecDepth 100000 in
theorem debug_walk (s : ByteArray) (l : List S27) (hl : l.length ≤ 1024) (hall : ∀ x ∈ l, dbgR x) (hs : s.size ≤ 1048576) (A : Option Addr) (c : Nat) (w : World) (ht : Tab w) (hC : kGA.C w A l.length l) :
    Calls Tryd.prog 16 #[.iface 71 (.agg #[.string s, .slice A l.length c])] w fun e w' => e = .returned (.string (debF s l)) ∧ Below w.heap.size w w' := by
  obtain ⟨r, hr⟩ : ∃ r, r = debF s l := ⟨_, rfl⟩
  rw [← hr]
  have HR := Lib.hid hr
  have HT0 := Lib.hid (tab_below ht)
  have HALL := Lib.hid hall
  have HC := Lib.hid hC
  have hnd := expr_no_debugger (.agg #[.string s, .slice A l.length c])
  clear hr ht hall hC
  go_enter Tryd.func16, Tryd.ntmps16
  go_wp2_with fail
  refine (expr_sql s l (by omega) A c w HC.out).mono ?_
  rintro e w0 ⟨rfl, hb0⟩
  have HB0 := Lib.hid hb0
  have HT := Lib.hid (tab_below (tab_at HT0.out hb0))
  have HC0 := Lib.hid (Kd.C_below HC.out hb0)
  clear hb0 HT0 HC
  go_wp2_with fail
  have H : DgRel s l (dbgL s.data.toList l []) w0.heap.size s.size s 0 (w0.alloc (.cells #[.slice none 0 0, .int .i64 0, .int .i8 0] 65)) := ⟨Nat.le_refl _, by omega, by omega, Nat.le_refl _, (below_alloc (Below.refl w0.heap.size w0) _).size, [], buf_fresh w0, rfl, by simp⟩
  have HB1 := Lib.hid (below_alloc (Below.refl w0.heap.size w0) (.cells #[.slice none 0 0, .int .i64 0, .int .i8 0] 65))
  go_loopg [3, 10] s.size (fun g v3 v10 w' => ∃ (q : ByteArray) (j : Int), v3 = .string q ∧ v10 = .int .i64 j ∧ DgRel s l (dbgL s.data.toList l []) w0.heap.size g q j w' ∧ Hid (Below w0.heap.size w0 w'))
  case atStart => exact ⟨s, 0, rfl, rfl, H, HB1⟩
  case round =>
    obtain ⟨q, j, rfl, rfl, ⟨hqg, hj0, hjl, hqs0, hL, acc, hbuf, hacc, hlen⟩, HB⟩ := hrel
    clear H HB1
    have hqs : q.data.toList.length = q.size := Array.length_toList
    obtain ⟨k0, hk0⟩ := index_is q (by omega)
    have HK0 := Lib.hid hk0
    have HBUF := Lib.hid hbuf
    have HACC := Lib.hid hacc
    clear hk0 hbuf hacc
    go_wp2_with fail
    refine (squirrel_zzIndex.calls k0 q _ (ixI q) _ HK0.out).mono ?_
    rintro e w1 ⟨rfl, ⟨n1, rfl⟩⟩
    have HD : Hid (Buf w0.heap.size w0.heap.size acc (wr.drewN n1)) := Lib.hid HBUF.out
    have BD := Lib.hid (pw_below_drewN HB.out n1)
    have hLd : w0.heap.size ≤ (wr.drewN n1).heap.size := hL
    clear HBUF HB hL HK0
    generalize wr.drewN n1 = wd at HD BD hLd ⊢
    rcases ixF_split q.data.toList 0 with ⟨hi, hno⟩ | ⟨pre, post, hsp, hpre, hi⟩
    · have hi' : ixI q = -1 := hi
      have hend := dbg_end (l.drop j.toNat) q.data.toList acc hno
      rw [HACC.out] at hend
      rw [hi']
      clear hi hi' hno HACC
      by_cases hj : j < (l.length : Int)
      · have hne : l.drop j.toNat ≠ [] := by
          intro h
          have := congrArg List.length h
          rw [List.length_drop] at this
          simp at this
          omega
        rw [if_neg hne] at hend
        have HRR : Hid ((⟨notE.toArray⟩ : ByteArray) = r) := Lib.hid (by rw [← hend, HR.out]; rfl)
        clear hend hne
        go_wp2_with fail
        go_ret
        exact ⟨by rw [← HRR.out]; rfl, below_chain HB0.out BD.out⟩
      · have he : l.drop j.toNat = [] := List.drop_eq_nil_of_le (by omega)
        rw [if_pos he] at hend
        have HA2 := Lib.hid hend
        clear hend he
        go_wp2_with fail
        refine (buf_write w0.heap.size w0.heap.size acc q _ HD.out hLd (by omega)).mono ?_
        rintro e w4 ⟨rfl, hB2, hb, _⟩
        have HB2 := Lib.hid hB2
        have BB2 := Lib.hid (below_weaken BD.out (Nat.le_refl _) hb)
        clear hB2 hb HD BD
        go_wp2_with fail
        refine (buf_string w0.heap.size w0.heap.size _ _ HB2.out).mono ?_
        rintro e w5 ⟨rfl, ⟨n5, rfl⟩⟩
        have HRR : Hid ((⟨(acc ++ q.data.toList).toArray⟩ : ByteArray) = r) := Lib.hid (by rw [← HA2.out, HR.out]; rfl)
        go_wp2_with fail
        go_ret
        exact ⟨by rw [← HRR.out]; rfl, below_chain HB0.out (pw_below_drewN BB2.out n5)⟩
    · have hl2 := congrArg List.length hsp
      rw [List.length_append, List.length_cons, hqs] at hl2
      have hi' : ixI q = (pre.length : Int) := by rw [ixI, hi, Nat.zero_add]
      rw [hi']
      cases gk with
      | zero => omega
      | succ g =>
        have e0 : (q.extract 0 pre.length).data.toList = pre := by
          rw [ByteArray.data_extract, Array.toList_extract, List.extract_eq_take_drop, List.drop_zero, Nat.sub_zero, hsp]
          exact List.take_left' rfl
        have e1 : (q.extract (pre.length + 1) q.size).data.toList = post := by
          rw [extract_end, hsp, show pre ++ 63 :: post = (pre ++ [63]) ++ post by simp]
          exact List.drop_left' (by simp)
        have hz : (q.extract 0 pre.length).size = pre.length := by simp; omega
        have hacc := HACC.out
        rw [hsp, dbg_pre _ pre _ _ hpre] at hacc
        have HA2 := Lib.hid hacc
        have HE0 := Lib.hid e0
        have HE1 := Lib.hid e1
        have p1 : (0 : Int) ≤ (pre.length : Int) := by omega
        have p2 : (pre.length : Int) ≤ (q.size : Int) := by omega
        have dm : ((pre.length : Int) == -1) = false := beq_eq_false_iff_ne.2 (by omega)
        have HL := Lib.hid hl2
        have HSP := Lib.hid hsp
        have hq0 : pre.length + 1 ≤ q.size := by omega
        clear hl2 hsp hi hi' hpre hacc HACC e0 e1 hqs
        cases hpost : post with
        | nil =>
          have hq1 : q.size ≤ pre.length + 1 := by
            have := HL.out
            rw [hpost] at this
            simp at this
            omega
          have hhead : post.head? ≠ some 63 := by rw [hpost]; simp
          clear hpost
          have p3 : (pre.length : Int) + 1 ≤ (q.size : Int) := by omega
          have p7 : (0 : Int) ≤ (pre.length : Int) + 1 := by omega
          by_cases hj : j < (l.length : Int)
          · have hx : l.drop j.toNat = rd_T27 l j :: l.drop (j.toNat + 1) := by
              rw [List.drop_eq_getElem_cons (by omega)]
              congr 1
              simp only [rd_T27]
              rw [List.getD_eq_getElem?_getD, List.getElem?_eq_getElem (by omega)]
              rfl
            have hmem : rd_T27 l j ∈ l := by
              have : rd_T27 l j ∈ l.drop j.toNat := by rw [hx]; exact List.mem_cons_self
              exact List.mem_of_mem_drop this
            have hdx := HALL.out _ hmem
            have hqs := quo_size _ hdx
            have hih := HA2.out
            rw [hx, dbg_one post hhead] at hih
            have HA3 := Lib.hid hih
            have hj1 : ¬ ((l.length : Int) < j + 1) := by omega
            have hsh : (shw (rd_T27 l j)).length ≤ 1048 := by
              have := hqs
              unfold quoL at this
              rw [List.length_append, List.length_cons, List.length_singleton] at this
              omega
            have HQ := Lib.hid hqs
            have HX := Lib.hid hdx
            clear hih hhead HA2 hx hmem hdx hqs
            go_wp2_with fail
            refine (buf_write w0.heap.size w0.heap.size acc (q.extract 0 pre.length) _ HD.out hLd (by rw [hz]; omega)).mono ?_
            rintro e w4 ⟨rfl, hB2, hb, _⟩
            rw [HE0.out] at hB2
            have HB2 := Lib.hid hB2
            have BB2 := Lib.hid (below_weaken BD.out (Nat.le_refl _) hb)
            have hL4 : w0.heap.size ≤ w4.heap.size := by have := hb.size; omega
            clear hB2 hb HD BD
            obtain ⟨ad, u, rfl, hK, hcell⟩ := one_cell rfl (Kd.C_below HC0.out BB2.out) j hj0 hj
            have hu : u = encG (rd_T27 l j) := by
              have hk : [u] = [encG (rd_T27 l j)] := hK
              injection hk
            subst hu
            clear hK
            obtain ⟨u, hu⟩ : ∃ u, u = encG (rd_T27 l j) := ⟨_, rfl⟩
            rw [← hu] at hcell
            have HU := Lib.hid hu
            clear hu
            go_wp2_with fail
            refine ((show Calls _ _ #[u] _ _ from HU.out ▸ text_is _ HX.out.1 HX.out.2.1 _ (tab_at HT.out BB2.out)) : Calls _ _ _ _ _).mono ?_
            rintro e w5 ⟨rfl, b5⟩
            have HB5 : Hid (Buf w0.heap.size w0.heap.size (acc ++ pre) w5) := Lib.hid (buf_below HB2.out hL4 b5)
            have BB5 := Lib.hid (below_step BB2.out b5)
            have hL5 : w0.heap.size ≤ w5.heap.size := by have := b5.size; omega
            clear HB2 BB2 b5 hL4
            have hcat1 : 1 + (shw (rd_T27 l j)).length ≤ 9223372036854775807 := by omega
            have hcat2 : 1 + (shw (rd_T27 l j)).length + 1 ≤ 9223372036854775807 := by omega
            go_wp2_with fail
            refine (buf_write w0.heap.size w0.heap.size (acc ++ pre) _ _ HB5.out hL5 (by simp only [List.length_append, ByteArray.size_append]; show acc.length + pre.length + (1 + (shw (rd_T27 l j)).length + 1) ≤ _; omega)).mono ?_
            rintro e w6 ⟨rfl, hB6, hb, _⟩
            have HB6 := Lib.hid hB6
            have BB6 := Lib.hid (below_weaken BB5.out (Nat.le_refl _) hb)
            have hL6 : w0.heap.size ≤ w6.heap.size := by have := hb.size; omega
            clear hB6 hb HB5 BB5 hL5
            go_wp2_with fail
            go_roundg g
            case measure => omega
            case rel =>
              have hsz : (q.extract (pre.length + 1) q.size).size = q.size - (pre.length + 1) := by simp
              have e3 : (j + 1).toNat = j.toNat + 1 := by omega
              refine ⟨q.extract (pre.length + 1) q.size, j + 1, rfl, rfl, ⟨by omega, by omega, by omega, by omega, hL6, _, HB6.out, ?_, ?_⟩, BB6⟩
              · rw [e3, HE1.out, ← HA3.out, bytes_app, bytes_app]
                rfl
              · rw [e3]
                simp only [List.length_append, bytes_app]
                show acc.length + pre.length + (1 + (shw (rd_T27 l j)).length + 1) + _ + _ ≤ _
                omega
          · have hx : l.drop j.toNat = [] := List.drop_eq_nil_of_le (by omega)
            have hih := HA2.out
            rw [hx, dbg_none post hhead] at hih
            have HRR : Hid ((⟨tooM.toArray⟩ : ByteArray) = r) := Lib.hid (by rw [hih, HR.out]; rfl)
            have hj1 : (l.length : Int) < j + 1 := by omega
            clear hih hhead HA2 hx
            go_wp2_with fail
            go_ret
            exact ⟨by rw [← HRR.out]; rfl, below_chain HB0.out BD.out⟩
        | cons d post' =>
          have hq1 : pre.length + 2 ≤ q.size := by
            have := HL.out
            rw [hpost] at this
            simp at this
            omega
          have p4 : (pre.length : Int) + 2 ≤ (q.size : Int) := by omega
          have p5 : (pre.length : Int) ≤ (pre.length : Int) + 2 := by omega
          have p6 : (0 : Int) ≤ (pre.length : Int) + 2 := by omega
          have htl : (q.extract pre.length (pre.length + 2)).toList = [63, d] := by
            rw [ByteArray.toList_eq, ByteArray.data_extract, Array.toList_extract, List.extract_eq_take_drop, HSP.out, List.drop_left' rfl, show pre.length + 2 - pre.length = 2 by omega, hpost]
            rfl
          by_cases hd : d = 63
          · have deq : ((q.extract pre.length (pre.length + 2)).toList == [63, 63]) = true := by rw [htl, hd]; rfl
            have e2 : (q.extract (pre.length + 2) q.size).data.toList = post' := by
              rw [extract_end, HSP.out, hpost, show pre ++ 63 :: d :: post' = (pre ++ [63, d]) ++ post' by simp]
              exact List.drop_left' (by simp)
            have hih := HA2.out
            rw [hpost, hd, dbg_two] at hih
            have HA3 := Lib.hid hih
            have HE2 := Lib.hid e2
            have d1 : ((q.size - pre.length : Nat) : Int) ≠ 1 := by omega
            clear hih HA2 e2 htl hd hpost HSP HE1 HL
            go_wp2_with fail
            refine (buf_write w0.heap.size w0.heap.size acc (q.extract 0 pre.length) _ HD.out hLd (by rw [hz]; omega)).mono ?_
            rintro e w4 ⟨rfl, hB2, hb, _⟩
            rw [HE0.out] at hB2
            have HB2 := Lib.hid hB2
            have BB2 := Lib.hid (below_weaken BD.out (Nat.le_refl _) hb)
            have hL4 : w0.heap.size ≤ w4.heap.size := by have := hb.size; omega
            clear hB2 hb HD BD
            go_wp2_with fail
            refine (buf_write w0.heap.size w0.heap.size (acc ++ pre) _ _ HB2.out hL4 (by simp only [List.length_append]; show acc.length + pre.length + 1 ≤ _; omega)).mono ?_
            rintro e w6 ⟨rfl, hB6, hb, _⟩
            have HB6 := Lib.hid hB6
            have BB6 := Lib.hid (below_weaken BB2.out (Nat.le_refl _) hb)
            have hL6 : w0.heap.size ≤ w6.heap.size := by have := hb.size; omega
            clear hB6 hb HB2 BB2 hL4
            go_wp2_with fail
            go_roundg g
            case measure => omega
            case rel =>
              have hsz : (q.extract (pre.length + 2) q.size).size = q.size - (pre.length + 2) := by simp
              refine ⟨q.extract (pre.length + 2) q.size, j, rfl, rfl, ⟨by omega, by omega, by omega, by omega, hL6, _, HB6.out, ?_, ?_⟩, BB6⟩
              · rw [HE2.out, ← HA3.out]
              · simp only [List.length_append]
                show acc.length + pre.length + 1 + _ + _ ≤ _
                omega
          · have deq : ((q.extract pre.length (pre.length + 2)).toList == [63, 63]) = false := by
              rw [htl]
              simpa using hd
            have hhead : post.head? ≠ some 63 := by rw [hpost]; simpa using hd
            clear htl hd hpost HSP
            have p3 : (pre.length : Int) + 1 ≤ (q.size : Int) := by omega
            have p7 : (0 : Int) ≤ (pre.length : Int) + 1 := by omega
            by_cases hj : j < (l.length : Int)
            · have hx : l.drop j.toNat = rd_T27 l j :: l.drop (j.toNat + 1) := by
                rw [List.drop_eq_getElem_cons (by omega)]
                congr 1
                simp only [rd_T27]
                rw [List.getD_eq_getElem?_getD, List.getElem?_eq_getElem (by omega)]
                rfl
              have hmem : rd_T27 l j ∈ l := by
                have : rd_T27 l j ∈ l.drop j.toNat := by rw [hx]; exact List.mem_cons_self
                exact List.mem_of_mem_drop this
              have hdx := HALL.out _ hmem
              have hqs := quo_size _ hdx
              have hih := HA2.out
              rw [hx, dbg_one post hhead] at hih
              have HA3 := Lib.hid hih
              have hj1 : ¬ ((l.length : Int) < j + 1) := by omega
              have hsh : (shw (rd_T27 l j)).length ≤ 1048 := by
                have := hqs
                unfold quoL at this
                rw [List.length_append, List.length_cons, List.length_singleton] at this
                omega
              have HQ := Lib.hid hqs
              have HX := Lib.hid hdx
              clear hih hhead HA2 hx hmem hdx hqs
              go_wp2_with fail
              refine (buf_write w0.heap.size w0.heap.size acc (q.extract 0 pre.length) _ HD.out hLd (by rw [hz]; omega)).mono ?_
              rintro e w4 ⟨rfl, hB2, hb, _⟩
              rw [HE0.out] at hB2
              have HB2 := Lib.hid hB2
              have BB2 := Lib.hid (below_weaken BD.out (Nat.le_refl _) hb)
              have hL4 : w0.heap.size ≤ w4.heap.size := by have := hb.size; omega
              clear hB2 hb HD BD
              obtain ⟨ad, u, rfl, hK, hcell⟩ := one_cell rfl (Kd.C_below HC0.out BB2.out) j hj0 hj
              have hu : u = encG (rd_T27 l j) := by
                have hk : [u] = [encG (rd_T27 l j)] := hK
                injection hk
              subst hu
              clear hK
              obtain ⟨u, hu⟩ : ∃ u, u = encG (rd_T27 l j) := ⟨_, rfl⟩
              rw [← hu] at hcell
              have HU := Lib.hid hu
              clear hu
              go_wp2_with fail
              refine ((show Calls _ _ #[u] _ _ from HU.out ▸ text_is _ HX.out.1 HX.out.2.1 _ (tab_at HT.out BB2.out)) : Calls _ _ _ _ _).mono ?_
              rintro e w5 ⟨rfl, b5⟩
              have HB5 : Hid (Buf w0.heap.size w0.heap.size (acc ++ pre) w5) := Lib.hid (buf_below HB2.out hL4 b5)
              have BB5 := Lib.hid (below_step BB2.out b5)
              have hL5 : w0.heap.size ≤ w5.heap.size := by have := b5.size; omega
              clear HB2 BB2 b5 hL4
              have hcat1 : 1 + (shw (rd_T27 l j)).length ≤ 9223372036854775807 := by omega
              have hcat2 : 1 + (shw (rd_T27 l j)).length + 1 ≤ 9223372036854775807 := by omega
              go_wp2_with fail
              refine (buf_write w0.heap.size w0.heap.size (acc ++ pre) _ _ HB5.out hL5 (by simp only [List.length_append, ByteArray.size_append]; show acc.length + pre.length + (1 + (shw (rd_T27 l j)).length + 1) ≤ _; omega)).mono ?_
              rintro e w6 ⟨rfl, hB6, hb, _⟩
              have HB6 := Lib.hid hB6
              have BB6 := Lib.hid (below_weaken BB5.out (Nat.le_refl _) hb)
              have hL6 : w0.heap.size ≤ w6.heap.size := by have := hb.size; omega
              clear hB6 hb HB5 BB5 hL5
              go_wp2_with fail
              go_roundg g
              case measure => omega
              case rel =>
                have hsz : (q.extract (pre.length + 1) q.size).size = q.size - (pre.length + 1) := by simp
                have e3 : (j + 1).toNat = j.toNat + 1 := by omega
                refine ⟨q.extract (pre.length + 1) q.size, j + 1, rfl, rfl, ⟨by omega, by omega, by omega, by omega, hL6, _, HB6.out, ?_, ?_⟩, BB6⟩
                · rw [e3, HE1.out, ← HA3.out, bytes_app, bytes_app]
                  rfl
                · rw [e3]
                  simp only [List.length_append, bytes_app]
                  show acc.length + pre.length + (1 + (shw (rd_T27 l j)).length + 1) + _ + _ ≤ _
                  omega
            · have hx : l.drop j.toNat = [] := List.drop_eq_nil_of_le (by omega)
              have hih := HA2.out
              rw [hx, dbg_none post hhead] at hih
              have HRR : Hid ((⟨tooM.toArray⟩ : ByteArray) = r) := Lib.hid (by rw [hih, HR.out]; rfl)
              have hj1 : (l.length : Int) < j + 1 := by omega
              clear hih hhead HA2 hx
              go_wp2_with fail
              go_ret
              exact ⟨by rw [← HRR.out]; rfl, below_chain HB0.out BD.out⟩
set_option maxRecDepth 100000 in
theorem expr_new (s : ByteArray) (A : Option Addr) (n c : Nat) (w : World) :
    Calls Tryd.prog 17 #[.string s, .slice A n c] w fun e w' => e = .returned (.iface 71 (.agg #[.string s, .slice A n c])) ∧ w' = w := by
  go_enter Tryd.func17, Tryd.ntmps17
  go_wp2_with fail
  go_ret
  exact ⟨rfl, rfl⟩
def impl_Debug.f (a0 : ByteArray) (l1 : List S27) : Option ByteArray :=
  if a0.size ≤ 1048576 ∧ l1.length ≤ 1024 ∧ l1.all (fun x => atomB x && (decide (-9223372036854775808 ≤ x.f1) && (decide (x.f1 ≤ 9223372036854775807) && decide (x.f2.size ≤ 1024)))) = true then some (debF a0 l1) else none
theorem debug_all {l1 : List S27} (h : l1.all (fun x => atomB x && (decide (-9223372036854775808 ≤ x.f1) && (decide (x.f1 ≤ 9223372036854775807) && decide (x.f2.size ≤ 1024)))) = true) : ∀ x ∈ l1, dbgR x := fun x hx => by
  have h1 := List.all_eq_true.1 h x hx
  simp only [Bool.and_eq_true, decide_eq_true_eq] at h1
  exact ⟨(atomB_iff x).1 h1.1, ⟨h1.2.1, h1.2.2.1⟩, h1.2.2.2⟩
set_option maxHeartbeats 1600000 in
set_option maxRecDepth 100000 in
theorem impl_Debug.calls (a0 : ByteArray) (A1 : Option Addr) (c1 : Nat) (l1 : List S27) (r : ByteArray) (w : World) (ht : Tab w) (hr1 : Kd.C k27 w A1 l1.length l1) (hc1 : l1.length ≤ c1) (h : impl_Debug.f a0 l1 = some r) :
    Calls Tryd.prog 8 #[.string a0, .slice A1 l1.length c1] w fun e w' => e = .returned (.string r) ∧ Below w.heap.size w w' := by
  unfold impl_Debug.f at h
  split at h
  · rename_i hg
    obtain ⟨hs, hl, hall0⟩ := hg
    have hall := debug_all hall0
    have H := Lib.hid (Option.some.inj h)
    have HT := Lib.hid (tab_below ht)
    have HGL := Lib.hid (goList_atoms l1 (fun x hx => (hall x hx).1) 0 (by omega) A1 c1 w hr1)
    have HD := Lib.hid (debug_walk a0 l1 hl hall hs)
    clear h hr1 hall hall0 hs hl ht
    go_enter Tryd.func8, Tryd.ntmps8
    go_wp2_with fail
    refine HGL.out.mono ?_
    rintro e w1 ⟨v, rfl, hR, hB⟩
    obtain ⟨A2, c2, e2, hl2, hC2⟩ := Kd.R_reads hR
    subst e2
    have HC2 := Lib.hid hC2
    have HB1 := Lib.hid hB
    clear hR hB hC2 HGL
    go_wp2_with fail
    refine (expr_new a0 A2 l1.length c2 w1).mono ?_
    rintro e w2 ⟨rfl, rfl⟩
    go_wp2_with fail
    refine (HD.out A2 c2 _ (tab_at HT.out HB1.out) HC2.out).mono ?_
    rintro e w3 ⟨rfl, hb⟩
    have HB3 := Lib.hid (below_chain HB1.out hb)
    clear hb
    rw [H.out]
    go_wp2_with fail
    go_ret
    exact ⟨rfl, HB3.out⟩
  · cases h
end Go.Proofs.YtabaldpjahcilaaDoor.H
/-
  CONTRACTS: squirrel's Eq of one name and one right value: its text and its arguments ('neg': NotEq's).
-/
namespace Go.Proofs.YtabaldpjahcilaaDoor.H
open Go.RowKit Go.Proofs.YtabaldpjahcilaaDoorW.PrintWords Go.Proofs.YtabaldpjahcilaaDoorW.PrintLast Go.Proofs.YtabaldpjahcilaaDoorW.PrintMore Go.Proofs.YtabaldpjahcilaaDoor.QD
set_option linter.unusedVariables false
set_option linter.unusedSimpArgs false

set_option maxRecDepth 100000 in
/-- strings.Join of one text is it. -/
theorem join_one (A : Option Addr) (c : Nat) (s sep : ByteArray) (w : World) (h : Kd.C Kd.string w A 1 [s]) :
    Calls Tryd.prog 40 #[.slice A 1 c, .string sep] w fun e w' => e = .returned (.string s) ∧ w' = w := by
  obtain ⟨ad, rfl, h2⟩ := h.2.2 (by omega)
  obtain ⟨cs, _, hK, hc⟩ := h2 0 s rfl
  have hK' : cs = [.string s] := hK
  subst hK'
  have hcell : w.cell? ad = some (.string s) := by simpa [Addr.add] using hc 0 _ rfl
  clear h hc h2 hK
  go_enter Tryd.func40, Tryd.ntmps40
  go_wp2_with fail
  go_ret
  exact ⟨rfl, rfl⟩
theorem assert_one {P : Program} {T : TypeId} {d : TypeDesc} (hu : P.underlying T = some d) (hd : ∀ ms, d ≠ .interface ms) (xT : TypeId) (v : Value) (W : World) : (Instr.typeAssert (.iface T v) xT T false).run P W = .ok v W := by
  unfold Instr.typeAssert
  simp only [Sem.run_bind, run_underlying hu, Result.andThen]
  cases d <;> simp_all [Sem.run_pure]
theorem ta_list_one (v : Value) (W : World) : (Instr.typeAssert (.iface 36 v) 20 36 false).run Tryd.prog W = .ok v W := assert_one Tryd.underlying36 (fun _ h => by cases h) _ v W
set_option maxRecDepth 100000 in
theorem isList_yes (v : Value) (w : World) : Calls Tryd.prog 38 #[.iface 36 v] w fun e w' => e = .returned (.bool true) ∧ w' = w := by
  have ht := ta_list_yes v
  go_enter Tryd.func38, Tryd.ntmps38
  go_wp2_with fail
  go_ret
  exact ⟨rfl, rfl⟩
set_option maxRecDepth 100000 in
theorem isList_no (t : TypeId) (h : t ≠ 36) (v : Value) (w : World) : Calls Tryd.prog 38 #[.iface t v] w fun e w' => e = .returned (.bool false) ∧ w' = w := by
  have ht := ta_list_no t v h
  go_enter Tryd.func38, Tryd.ntmps38
  go_wp2_with fail
  go_ret
  exact ⟨rfl, rfl⟩
/-- A look-up without 'ok', at the map's named type. -/
theorem look_one {ok : Nat → Prop} {w : World} {b : Nat} {l : List ArgX} (h : MapIs ok w b l) (x : ArgX) (hx : x ∈ l) (hs : x.f0.size ≤ maxLen) :
    ∃ u, (Instr.lookup 52 (.map (some b)) (.string x.f0) false).run Tryd.prog w = .ok u w ∧ kG.K w x.f1 [u] := by
  obtain ⟨D, n, ho, hn, hl, hz⟩ := h
  obtain ⟨u, h1, h2, h3⟩ := hl x hx
  obtain ⟨v, ps, hrun, hv⟩ := ho.lookup mkeyed Tryd.underlying52 (zero_iface w) (zd := mz) (zp := []) rfl (key_at x.f0 hs)
  rw [h1] at hv
  have e : v = u := by
    simp only [rdv, Option.some.injEq, Prod.mk.injEq, DataW.held.injEq] at hv
    exact hv.1
  subst e
  exact ⟨v, hrun, kG.K_of_M h3⟩
section
variable {ops : Array Oper} {rest : List Oper} {o : Oper} {a : Act} {Q : Exit → Act → World → Prop}
theorem wp_look_one {ok : Nat → Prop} (w : World) (hg : o.guard = none) (m x : Operand) (hop : o.op = Op.lookup 52 m x false) (b : Nat) (l : List ArgX) (y : ArgX) (s : ByteArray) (hm : a.eval m = .map (some b)) (hx : a.eval x = .string s)
    (h : MapIs ok w b l) (hy : y ∈ l) (hys : y.f0 = s) (hs : s.size ≤ maxLen) (hK : ∀ u, kG.K w y.f1 [u] → wpList Tryd.prog ops Q rest (a.put o.dst u) w) : wpList Tryd.prog ops Q (o :: rest) a w := by
  subst hys
  refine wpList_plain hg fun K' hK' => ?_
  obtain ⟨u, hrun, hu⟩ := look_one h y hy hs
  unfold Oper.wp
  simp [execOp, hop, hm, hx, hrun, Result.andThen]
  exact hK' _ _ (hK u hu)
end
theorem qm_len : ∀ n, (qm n).length ≤ 2 * n
  | 0 => Nat.le_refl _
  | n + 1 => by
    have := qm_len n
    show (qm n ++ ((if n = 0 then [] else [44]) ++ [63])).length ≤ _
    split <;> simp <;> omega
def txt (l : List UInt8) : ByteArray := ⟨l.toArray⟩
/-- The text of one name and one value. -/
def eqTxt (neg : Bool) (s : ByteArray) (v : S27) : ByteArray :=
  if v.f0 = 0 then s ++ ⟨#[32]⟩ ++ (if neg = true then ⟨#[73, 83, 32, 78, 79, 84]⟩ else ⟨#[73, 83]⟩) ++ ⟨#[32, 78, 85, 76, 76]⟩
  else if v.f0 = 5 then (if v.f3 = [] then (if neg = true then ⟨#[40, 49, 61, 49, 41]⟩ else ⟨#[40, 49, 61, 48, 41]⟩)
    else s ++ ⟨#[32]⟩ ++ (if neg = true then ⟨#[78, 79, 84, 32, 73, 78]⟩ else ⟨#[73, 78]⟩) ++ ⟨#[32, 40]⟩ ++ ⟨(qm v.f3.length).toArray⟩ ++ ⟨#[41]⟩)
  else s ++ ⟨#[32]⟩ ++ (if neg = true then ⟨#[60, 62]⟩ else ⟨#[61]⟩) ++ ⟨#[32, 63]⟩
/-- Its arguments. -/
def eqVals (v : S27) : List S27 := if v.f0 = 0 then [] else if v.f0 = 5 then v.f3 else [v]
def SqlPost (t : ByteArray) (vs : List S27) (e : Ending) (w' : World) : Prop := ∃ A c, e = .returned (.tuple #[.string t, .slice A vs.length c, .nilIface]) ∧ vs.length ≤ c ∧ kG.C w' A vs.length vs
/-- What lies in the map, by the value's kind. -/
theorem kinds_of {w : World} {v : S27} {u : Value} (hv : rightR v) (h : kG.K w v [u]) :
    (v.f0 = 0 ∧ u = .nilIface) ∨ (v.f0 ≠ 0 ∧ v.f0 ≠ 5 ∧ ∃ t y, t ≠ 36 ∧ u = .iface t y) ∨ (v.f0 = 5 ∧ (∀ y ∈ v.f3, atomR y) ∧ ∃ A c, u = .iface 36 (.slice A v.f3.length c) ∧ v.f3.length ≤ c ∧ kGA.C w A v.f3.length v.f3) := by
  have h' : (if v.f0 = 5 then ∃ A c, [u] = [.iface 36 (.slice A v.f3.length c)] ∧ v.f3.length ≤ c ∧ kGA.C w A v.f3.length v.f3 else [u] = [encG v]) := h
  rcases hv with ha | ⟨h5, _, _, ha⟩
  · have h5 : v.f0 ≠ 5 := by have := ha.2.1; omega
    rw [if_neg h5] at h'
    injection h' with h'
    by_cases h0 : v.f0 = 0
    · exact .inl ⟨h0, by rw [h']; unfold encG; rw [h0]; simp⟩
    · refine .inr (.inl ⟨h0, h5, ?_⟩)
      have h1 := ha.1
      have h4 := ha.2.1
      have : v.f0 = 1 ∨ v.f0 = 2 ∨ v.f0 = 3 ∨ v.f0 = 4 := by omega
      rcases this with e | e | e | e
      · exact ⟨2, .int .i64 v.f1, by decide, by rw [h']; unfold encG; rw [e]; rfl⟩
      · exact ⟨9, .string v.f2, by decide, by rw [h']; unfold encG; rw [e]; rfl⟩
      · exact ⟨4, .bool true, by decide, by rw [h']; unfold encG; rw [e]; rfl⟩
      · exact ⟨4, .bool false, by decide, by rw [h']; unfold encG; rw [e]; rfl⟩
  · rw [if_pos h5] at h'
    obtain ⟨A, c, hu, hl, hC⟩ := h'
    injection hu with hu
    exact .inr (.inr ⟨h5, ha, A, c, hu, hl, hC⟩)
set_option maxHeartbeats 6400000 in
set_option maxRecDepth 100000 in
theorem sql_walk {ok : Nat → Prop} (neg : Bool) (s : ByteArray) (v : S27) (hv : rightR v) (hl : v.f3.length ≤ 1048576) (hs : s.size ≤ 1048576) (w : World) (b : Nat) (hM : MapIs ok w b [⟨s, v⟩]) :
    Calls Tryd.prog 31 #[.map (some b), .bool neg] w fun e w' => SqlPost (eqTxt neg s v) (eqVals v) e w' ∧ Below w.heap.size w w' := by
  obtain ⟨D, n, ho, hn, hx, _⟩ := hM.own
  obtain ⟨_, _, hhas, _⟩ := hx ⟨s, v⟩ (by simp)
  have hone := one_size ho (by simpa using hn) s hhas
  have HOWN := Lib.hid ho
  have HM := Lib.hid hM
  have HV := Lib.hid hv
  obtain ⟨T, hT⟩ : ∃ T, T = eqTxt neg s v := ⟨_, rfl⟩
  rw [← hT]
  have HT := Lib.hid hT
  have HSL : Hid (s.size ≤ maxLen) := Lib.hid (by simp only [maxLen]; omega)
  clear hx hn ho hv hM hT hhas
  cases neg
  all_goals
    go_enter Tryd.func31, Tryd.ntmps31
    go_wp2_with (first
      | (at_len; refine wpList_len_own _ rfl _ 52 rfl 9 20 Tryd.underlying52 rdv b n D rfl HOWN.out ?_))
    refine (keys_one w b s v HM.out).mono ?_
    rintro e w1 ⟨⟨A, c, rfl, hC⟩, hB1⟩
    obtain ⟨ad, rfl, h2⟩ := hC.2.2 (by omega)
    obtain ⟨cs, _, hK, hc⟩ := h2 0 s rfl
    have hK' : cs = [.string s] := hK
    subst hK'
    have hcell : w1.cell? ad = some (.string s) := by simpa [Addr.add] using hc 0 _ rfl
    have HB1 := Lib.hid hB1
    have HM1 := Lib.hid (HM.out.below hB1)
    clear hC hc h2 hK hB1 HOWN hone
    go_wp2_with fail
    refine wp_loop_rounds 2 ?_
    rw [rounds_succ]
    go_wp2_with (first | (at_lookup; refine wp_look_one w1 rfl (.tmp 31) (.tmp 32) rfl b _ ⟨s, v⟩ s rfl rfl HM1.out (by simp) rfl HSL.out ?_))
    intro u hu
    have HU := Lib.hid hu
    rcases kinds_of HV.out hu with ⟨h0, rfl⟩ | ⟨h0, h5, t, y, hne, rfl⟩ | ⟨h5, ha, A2, c2, rfl, hl2, hC2⟩
    · clear hu hcell
      have e1 : s.size + 1 ≤ 9223372036854775807 := by omega
      have HE : Hid (eqVals v = []) := Lib.hid (by unfold eqVals; rw [if_pos h0])
      have HTT := Lib.hid (HT.out.trans (by unfold eqTxt; rw [if_pos h0]))
      go_wp2_with (first | ((with_reducible refine gate_builtin (b := .append) (xs := #[.tmp 84, .tmp 86]) rfl ?_); at_builtin; refine OwnRow.append (R := isStr) (w0 := w) w.heap.size rfl (.tmp 84) (.tmp 86) 34 9 (.string ⟨#[]⟩) 1 16 rfl Tryd.underlying34 info_str rfl (by decide) (by decide) (.slice none 0 0) [] T [_] rfl (by first | rfl | exact congrArg (fun n => Value.slice (some ⟨n, 0, none⟩) 1 1) (by simp)) (show isStr T [_] by rw [HTT.out]; rfl) rfl (fun u hu => by rw [List.mem_singleton.1 hu]; rfl) (OwnRow.none_ _ _ _ _ _) HB1.out HB1.out.size (by simp) ?_))
      intro v7 w7 hO7 hB7 hg7 _
      obtain ⟨A7, c7, e7, hl7, hr7⟩ := OwnRow.reads hO7
      subst e7
      have HR7 : Hid (Kd.C Kd.string w7 A7 1 [T]) := Lib.hid hr7
      have HB7 := Lib.hid hB7
      skip
      clear hO7 hB7 hg7 hl7 hr7
      go_wp2_with fail
      rw [rounds_succ]
      go_wp2_with fail
      refine (join_one A7 c7 T _ _ HR7.out).mono ?_
      rintro e w8 ⟨rfl, rfl⟩
      go_wp2_with fail
      go_ret3
      exact ⟨by rw [HE.out]; exact ⟨none, 0, rfl, Nat.le_refl _, Kd.C_nil _ _⟩, HB7.out⟩
    · have HE : Hid (eqVals v = [v]) := Lib.hid (by unfold eqVals; rw [if_neg h0, if_neg h5])
      have HTT := Lib.hid (HT.out.trans (by unfold eqTxt; rw [if_neg h0, if_neg h5]))
      clear hu hcell
      have e1 : s.size + 1 ≤ 9223372036854775807 := by omega
      go_wp2_with fail
      refine (isList_no t hne y w1).mono ?_
      rintro e w9 ⟨rfl, rfl⟩
      go_wp2_with (first | ((with_reducible refine gate_builtin (b := .append) (xs := #[.tmp 80, .tmp 82]) rfl ?_); at_builtin; refine OwnRow.append (R := kG.K w9) (w0 := w) w.heap.size rfl (.tmp 80) (.tmp 82) 36 20 .nilIface 1 16 rfl Tryd.underlying36 info_iface rfl (by decide) (by decide) (.slice none 0 0) [] v [_] rfl rfl HU.out rfl (kG.K_one HU.out) (OwnRow.none_ _ _ _ _ _) HB1.out HB1.out.size (by simp) ?_))
      intro v5 w5 hO5 hB5 hg5 _
      have hb95 : Below w9.heap.size w9 w5 := (Below.refl _ _).grown hg5 (Nat.le_refl _) (fun k hk => by cases hk)
      obtain ⟨A5, c5, e5, hl5, hr5⟩ := ARow.got (show ARow w9 w.heap.size [v] v5 w5 from hO5) hb95
      subst e5
      have HC5 := Lib.hid hr5
      have HL5 := Lib.hid hl5
      have HB5 := Lib.hid hB5
      clear hO5 hB5 hg5 hb95 hl5 hr5
      go_wp2_with (first | ((with_reducible refine gate_builtin (b := .append) (xs := #[.tmp 84, .tmp 86]) rfl ?_); at_builtin; refine OwnRow.append (R := isStr) (w0 := w) w.heap.size rfl (.tmp 84) (.tmp 86) 34 9 (.string ⟨#[]⟩) 1 16 rfl Tryd.underlying34 info_str rfl (by decide) (by decide) (.slice none 0 0) [] T [_] rfl (by first | rfl | exact congrArg (fun n => Value.slice (some ⟨n, 0, none⟩) 1 1) (by simp)) (show isStr T [_] by rw [HTT.out]; rfl) rfl (fun u hu => by rw [List.mem_singleton.1 hu]; rfl) (OwnRow.none_ _ _ _ _ _) HB5.out HB5.out.size (by simp) ?_))
      intro v7 w7 hO7 hB7 hg7 _
      obtain ⟨A7, c7, e7, hl7, hr7⟩ := OwnRow.reads hO7
      subst e7
      have HR7 : Hid (Kd.C Kd.string w7 A7 1 [T]) := Lib.hid hr7
      have HB7 := Lib.hid hB7
      have HC7 := Lib.hid (Kd.C_below HC5.out ((Below.refl _ _).grown hg7 (Nat.le_refl _) (fun k hk => by cases hk)))
      clear hO7 hB7 hg7 hl7 hr7
      go_wp2_with fail
      rw [rounds_succ]
      go_wp2_with fail
      refine (join_one A7 c7 T _ _ HR7.out).mono ?_
      rintro e w8 ⟨rfl, rfl⟩
      go_wp2_with fail
      go_ret3
      exact ⟨by rw [HE.out]; exact ⟨A5, c5, rfl, HL5.out, HC7.out⟩, HB7.out⟩
    · have hta := ta_list_one (.slice A2 v.f3.length c2)
      have hq := fun W => Lib.run_eql_slice_nil_nil (P := Tryd.prog) W 0 0 Tryd.underlying36
      clear hu hcell
      go_wp2_with fail
      refine (isList_yes _ w1).mono ?_
      rintro e w9 ⟨rfl, rfl⟩
      by_cases hz0 : (v.f3.length : Int) = 0
      · have hn : v.f3 = [] := List.eq_nil_of_length_eq_zero (by omega)
        have HE : Hid (eqVals v = []) := Lib.hid (by unfold eqVals; rw [if_neg (by omega), if_pos h5, hn])
        have HTT := Lib.hid (HT.out.trans (by unfold eqTxt; rw [if_neg (by omega), if_pos h5, if_pos hn]))
        clear hn hC2
        have HB5 := Lib.hid (below_alloc HB1.out (.cells #[] 20))
        go_wp2_with (first | ((with_reducible refine gate_builtin (b := .append) (xs := #[.tmp 84, .tmp 86]) rfl ?_); at_builtin; refine OwnRow.append (R := isStr) (w0 := w) w.heap.size rfl (.tmp 84) (.tmp 86) 34 9 (.string ⟨#[]⟩) 1 16 rfl Tryd.underlying34 info_str rfl (by decide) (by decide) (.slice none 0 0) [] T [_] rfl (by first | rfl | exact congrArg (fun n => Value.slice (some ⟨n, 0, none⟩) 1 1) (by simp)) (show isStr T [_] by rw [HTT.out]; rfl) rfl (fun u hu => by rw [List.mem_singleton.1 hu]; rfl) (OwnRow.none_ _ _ _ _ _) HB5.out HB5.out.size (by simp) ?_))
        intro v7 w7 hO7 hB7 hg7 _
        obtain ⟨A7, c7, e7, hl7, hr7⟩ := OwnRow.reads hO7
        subst e7
        have HR7 : Hid (Kd.C Kd.string w7 A7 1 [T]) := Lib.hid hr7
        have HB7 := Lib.hid hB7
        skip
        clear hO7 hB7 hg7 hl7 hr7
        go_wp2_with fail
        rw [rounds_succ]
        go_wp2_with fail
        refine (join_one A7 c7 T _ _ HR7.out).mono ?_
        rintro e w8 ⟨rfl, rfl⟩
        go_wp2_with fail
        go_ret3
        exact ⟨by rw [HE.out]; exact ⟨some ⟨w9.heap.size, 0, none⟩, 0, rfl, Nat.le_refl _, ⟨rfl, by simp, fun h => absurd h (by simp)⟩⟩, HB7.out⟩
      · have hn : v.f3 ≠ [] := fun h => hz0 (by rw [h]; rfl)
        have HE : Hid (eqVals v = v.f3) := Lib.hid (by unfold eqVals; rw [if_neg (by omega), if_pos h5])
        have HTT := Lib.hid (HT.out.trans (by unfold eqTxt; rw [if_neg (by omega), if_pos h5, if_neg hn]))
        have hz1 : ((v.f3.length : Int) == 0) = false := beq_eq_false_iff_ne.2 hz0
        have HC2 := Lib.hid hC2
        have HA := Lib.hid ha
        clear hn hC2 ha
        go_wp2_with fail
        clear hq hta
        go_loopg [5, 18] v.f3.length (fun g v5 v18 w' => ∃ (i : Int), v18 = .int .i64 i ∧ Hid (0 ≤ i ∧ i + g = v.f3.length) ∧ Hid (ARow w9 w9.heap.size (v.f3.take i.toNat) v5 w') ∧ Hid (Below w9.heap.size w9 w'))
        case atStart => exact ⟨0, rfl, Lib.hid ⟨by omega, by omega⟩, Lib.hid (OwnRow.none_ _ _ _ _ _), Lib.hid (Below.refl _ _)⟩
        case round =>
          obtain ⟨i, rfl, HI, HO, HB⟩ := hrel
          have hi := HI.out
          cases gk with
          | zero =>
            have hge : ¬ i < (v.f3.length : Int) := by omega
            have hall : v.f3.take i.toNat = v.f3 := List.take_of_length_le (by omega)
            have HO2 := HO.out
            rw [hall] at HO2
            obtain ⟨A5, c5, e5, hl5, hr5⟩ := ARow.got HO2 HB.out
            subst e5
            have HC5 := Lib.hid hr5
            have HL5 := Lib.hid hl5
            have HB5 := Lib.hid (HB1.out.trans (HB.out.mono HB1.out.size))
            clear hi hall HO2 hl5 hr5 HO HI
            have hpl : squirrel_Placeholders.f (v.f3.length : Int) = some ⟨(qm v.f3.length).toArray⟩ := by
              unfold squirrel_Placeholders.f
              rw [if_neg (by omega), if_pos (by omega), Int.toNat_natCast]
            have HPL := Lib.hid hpl
            have hql := qm_len v.f3.length
            have hqs : (⟨(qm v.f3.length).toArray⟩ : ByteArray).size = (qm v.f3.length).length := rfl
            clear hpl
            go_wp2_with fail
            refine (squirrel_Placeholders.calls _ _ _ HPL.out).mono ?_
            rintro e w6 ⟨rfl, hb6⟩
            have HC6 := Lib.hid (Kd.C_below HC5.out hb6)
            have HB6 := Lib.hid (HB5.out.trans (hb6.mono HB5.out.size))
            have e2 : s.size + 1 + 8 + (qm v.f3.length).length + 1 ≤ 9223372036854775807 := by omega
            clear hb6 HC5 HB5 HPL HB
            go_wp2_with (first | ((with_reducible refine gate_builtin (b := .append) (xs := #[.tmp 84, .tmp 86]) rfl ?_); at_builtin; refine OwnRow.append (R := isStr) (w0 := w) w.heap.size rfl (.tmp 84) (.tmp 86) 34 9 (.string ⟨#[]⟩) 1 16 rfl Tryd.underlying34 info_str rfl (by decide) (by decide) (.slice none 0 0) [] T [_] rfl (by first | rfl | exact congrArg (fun n => Value.slice (some ⟨n, 0, none⟩) 1 1) (by simp)) (show isStr T [_] by rw [HTT.out]; rfl) rfl (fun u hu => by rw [List.mem_singleton.1 hu]; rfl) (OwnRow.none_ _ _ _ _ _) HB6.out HB6.out.size (by simp) ?_))
            intro v7 w7 hO7 hB7 hg7 _
            obtain ⟨A7, c7, e7, hl7, hr7⟩ := OwnRow.reads hO7
            subst e7
            have HR7 : Hid (Kd.C Kd.string w7 A7 1 [T]) := Lib.hid hr7
            have HB7 := Lib.hid hB7
            have HC7 := Lib.hid (Kd.C_below HC6.out ((Below.refl _ _).grown hg7 (Nat.le_refl _) (fun k hk => by cases hk)))
            clear hO7 hB7 hg7 hl7 hr7
            go_wp2_with fail
            rw [rounds_succ]
            go_wp2_with fail
            refine (join_one A7 c7 T _ _ HR7.out).mono ?_
            rintro e w8 ⟨rfl, rfl⟩
            go_wp2_with fail
            go_ret3
            exact ⟨by rw [HE.out]; exact ⟨A5, c5, rfl, HL5.out, HC7.out⟩, HB7.out⟩
          | succ g =>
            have hlt : i < (v.f3.length : Int) := by omega
            have h0 : 0 ≤ i := hi.1
            obtain ⟨ad3, u, rfl, hK, hcell⟩ := one_cell rfl (Kd.C_below HC2.out HB.out) i h0 hlt
            have HX := Lib.hid (atom_at v.f3 atomR HA.out i h0 hlt)
            have HTK := Lib.hid (take_next v.f3 i h0 hlt)
            clear hi
            generalize rd_T27 v.f3 i = x at HX HTK hK
            have HK : Hid (kG.K w9 x [u]) := Lib.hid (by
              have hk : [u] = [encG x] := hK
              show (if x.f0 = 5 then _ else _)
              rw [if_neg (by have := HX.out.2.1; omega)]
              exact hk)
            have HIF := Lib.hid (kG_if _ _ _ HK.out)
            have hbase := HB.out.size
            clear hK
            rcases HIF.out with rfl | ⟨t3, y3, rfl⟩
            all_goals
              go_wp2_with (first | ((with_reducible refine gate_builtin (b := .append) (xs := #[.tmp 58, .tmp 63]) rfl ?_); at_builtin; refine OwnRow.append (R := kG.K w9) (w0 := w9) w9.heap.size rfl (.tmp 58) (.tmp 63) 36 20 .nilIface 1 16 rfl Tryd.underlying36 info_iface rfl (by decide) (by decide) u5 (v.f3.take i.toNat) x [_] rfl rfl HK.out rfl (kG.K_one HK.out) HO.out HB.out hbase (by rw [List.length_take]; omega) ?_))
              intro v1 w5 hO1 hB5 _ _
              have HO3 : Hid (ARow w9 w9.heap.size (v.f3.take (i + 1).toNat) v1 w5) := Lib.hid (by rw [HTK.out]; exact hO1)
              have HB5 := Lib.hid hB5
              clear hO1 hB5 hcell
              go_wp2_with fail
              go_roundg g
              case measure => omega
              case rel => exact ⟨i + 1, rfl, Lib.hid (by have := HI.out; omega), HO3, HB5⟩
end Go.Proofs.YtabaldpjahcilaaDoor.H
/-
  CONTRACTS: impl.EqOf and impl.NotEqOf of one name and one right value (a name of at most 2^20 bytes, a list of at most 2^20).
-/
namespace Go.Proofs.YtabaldpjahcilaaDoor.H
open Go.RowKit Go.Proofs.YtabaldpjahcilaaDoorW.PrintWords Go.Proofs.YtabaldpjahcilaaDoorW.PrintLast Go.Proofs.YtabaldpjahcilaaDoorW.PrintMore Go.Proofs.YtabaldpjahcilaaDoor.QD
set_option linter.unusedVariables false
set_option linter.unusedSimpArgs false

def eqF (neg : Bool) (l0 : List ByteArray) (l1 : List S27) : Option (ByteArray × List S27 × Bool) := match l0, l1 with
  | [s], [v] => if s.size ≤ 1048576 ∧ rightB v = true ∧ v.f3.length ≤ 1048576 then some (eqTxt neg s v, eqVals v, true) else none
  | _, _ => none
theorem eqF_some {neg : Bool} {l0 : List ByteArray} {l1 : List S27} {r : ByteArray × List S27 × Bool} (h : eqF neg l0 l1 = some r) : ∃ s v, l0 = [s] ∧ l1 = [v] ∧ s.size ≤ 1048576 ∧ rightR v ∧ v.f3.length ≤ 1048576 ∧ r = (eqTxt neg s v, eqVals v, true) := by
  unfold eqF at h
  split at h
  · rename_i s v
    split at h
    · rename_i hh
      exact ⟨s, v, rfl, rfl, hh.1, (rightB_iff v).1 hh.2.1, hh.2.2, (Option.some.inj h).symm⟩
    · cases h
  · cases h
theorem eqVals_good {v : S27} (hv : rightR v) (hl : v.f3.length ≤ 1048576) : (eqVals v).length ≤ 1048576 ∧ ∀ x ∈ eqVals v, rightR x ∧ x.f3.length ≤ 1048576 := by
  unfold eqVals
  split
  · exact ⟨by simp, fun x hx => by cases hx⟩
  · split
    · rename_i h5
      refine ⟨hl, fun x hx => ?_⟩
      rcases hv with ha | ⟨_, _, _, ha⟩
      · exact absurd h5 (by have := ha.2.1; omega)
      · exact ⟨.inl (ha x hx), by rw [(ha x hx).2.2.1]; simp⟩
    · exact ⟨by simp, fun x hx => by rw [List.mem_singleton.1 hx]; exact ⟨hv, hl⟩⟩
def EqPost (t : ByteArray) (vs : List S27) (w : World) (e : Ending) (w' : World) : Prop := ∃ v1_ : Value, e = .returned (.tuple #[.string t, v1_, .bool true]) ∧ Kd.R k27 27 w' w.heap.size (fun _ => True) v1_ vs ∧ Below w.heap.size w w'
set_option maxHeartbeats 1600000 in
set_option maxRecDepth 100000 in
/-- impl's answer of a text and arguments, no error. -/
theorem answer_ok (t : ByteArray) (vs : List S27) (h : ∀ x ∈ vs, rightR x ∧ x.f3.length ≤ 1048576) (hl : vs.length ≤ 1048576) (A : Option Addr) (c : Nat) (w : World) (hC : kG.C w A vs.length vs) :
    Calls Tryd.prog 21 #[.string t, .slice A vs.length c, .nilIface] w (EqPost t vs w) := by
  have HV := Lib.hid (valuesOf_right vs h hl A c w hC)
  clear h hC
  go_enter Tryd.func21, Tryd.ntmps21
  go_wp2_with fail
  refine HV.out.mono ?_
  rintro e w3 ⟨v, rfl, hR, hb⟩
  have HR := Lib.hid hR
  have HB := Lib.hid hb
  clear hR hb HV
  go_wp2_with fail
  go_ret3
  exact ⟨_, rfl, HR.out, HB.out⟩
section
variable {ok : Nat → Prop}
set_option maxHeartbeats 1600000 in
set_option maxRecDepth 100000 in
theorem eq_sql (s : ByteArray) (v : S27) (hv : rightR v) (hl : v.f3.length ≤ 1048576) (hs : s.size ≤ 1048576) (w : World) (b : Nat) (hM : MapIs ok w b [⟨s, v⟩]) :
    Calls Tryd.prog 22 #[.map (some b)] w fun e w' => SqlPost (eqTxt false s v) (eqVals v) e w' ∧ Below w.heap.size w w' := by
  have HQ := Lib.hid (sql_walk false s v hv hl hs w b hM)
  clear hv hM
  go_enter Tryd.func22, Tryd.ntmps22
  go_wp2_with fail
  refine HQ.out.mono ?_
  rintro e w1 ⟨⟨A, c, rfl, hl1, hC⟩, hb⟩
  have HC := Lib.hid hC
  have HB := Lib.hid hb
  clear hC hb HQ
  go_wp2_with fail
  go_ret3
  exact ⟨⟨A, c, rfl, hl1, HC.out⟩, HB.out⟩
end
def impl_EqOf.f (l0 : List ByteArray) (l1 : List S27) : Option (ByteArray × List S27 × Bool) := eqF false l0 l1
set_option maxHeartbeats 1600000 in
set_option maxRecDepth 100000 in
theorem impl_EqOf.calls (A0 : Option Addr) (c0 : Nat) (l0 : List ByteArray) (A1 : Option Addr) (c1 : Nat) (l1 : List S27) (r1 : ByteArray) (r2 : List S27) (r3 : Bool) (w : World) (hr0 : Kd.C Kd.string w A0 l0.length l0) (hc0 : l0.length ≤ c0) (hr1 : Kd.C k27 w A1 l1.length l1) (hc1 : l1.length ≤ c1) (h : impl_EqOf.f l0 l1 = some (r1, r2, r3)) :
    Calls Tryd.prog 13 #[.slice A0 l0.length c0, .slice A1 l1.length c1] w fun e w' => ∃ v1_ : Value, e = .returned (.tuple #[.string r1, v1_, .bool r3]) ∧ Kd.R k27 27 w' w.heap.size (fun _ => True) v1_ r2 ∧ Below w.heap.size w w' := by
  obtain ⟨s, v, rfl, rfl, hs, hv, hl, hr⟩ := eqF_some h
  simp only [Prod.mk.injEq] at hr
  obtain ⟨rfl, rfl, rfl⟩ := hr
  have HT := Lib.hid (table_one s v hv hl (by simp only [maxLen]; omega) A0 A1 c0 c1 w hr0 hr1)
  have HV := Lib.hid hv
  clear hr0 hr1 hc0 hc1 h hv
  go_enter Tryd.func13, Tryd.ntmps13
  go_wp2_with fail
  refine HT.out.mono ?_
  rintro e w1 ⟨b, rfl, hM, hB⟩
  have HM := Lib.hid hM
  have HB1 := Lib.hid hB
  clear hM hB HT
  go_wp2_with fail
  refine (eq_sql s v HV.out hl hs w1 b HM.out).mono ?_
  rintro e w2 ⟨⟨A, c, rfl, hl1, hC⟩, hb⟩
  have HC := Lib.hid hC
  have HB2 := Lib.hid (HB1.out.trans (hb.mono HB1.out.size))
  have HG := Lib.hid (eqVals_good HV.out hl)
  clear hC hb
  go_wp2_with fail
  refine (answer_ok _ _ HG.out.2 HG.out.1 A c w2 HC.out).mono ?_
  rintro e w3 ⟨v3, rfl, hR, hb⟩
  have HR := Lib.hid (Kd.R_lower hR HB2.out.size)
  have HB3 := Lib.hid (HB2.out.trans (hb.mono HB2.out.size))
  clear hR hb
  go_wp2_with fail
  go_ret3
  exact ⟨_, rfl, HR.out, HB3.out⟩
end Go.Proofs.YtabaldpjahcilaaDoor.H

/-
  CONTRACTS: squirrel's DebugSqlizer of Expr of a text with values that are no lists, and impl.Debug (texts of at most 2^20 bytes, at most 1024 values, texts in them of at most 1024 bytes; a world in which strconv's table lies), by the shelf's contracts of bytes.Buffer.
-/
import Derived.Test.YtabaldpjahcilaaDoorHText
import Derived.Test.YtabaldpjahcilaaDoorHRight
import Derived.Test.YtabaldpjahcilaaDoorHIndex
import Derived.Test.YtabaldpjahcilaaDoorHBuf
import Derived.Handy
import Derived.Lib.Hide
import Derived.Outline
import Derived.Deep.LoopGhost
namespace Go.Proofs.YtabaldpjahcilaaDoor.H
open Go.RowKit Go.Proofs.YtabaldpjahcilaaDoorW.PrintWords Go.Proofs.YtabaldpjahcilaaDoorW.PrintLast Go.Proofs.YtabaldpjahcilaaDoorW.PrintMore Go.Proofs.YtabaldpjahcilaaDoor.QL Go.Proofs.YtabaldpjahcilaaDoor.QD
set_option linter.unusedVariables false
set_option linter.unusedSimpArgs false

theorem bytes_app (a b : ByteArray) : (a ++ b).data.toList = a.data.toList ++ b.data.toList := by simp
theorem buf_below {B b : Nat} {l : List UInt8} {w w2 : World} (h : Buf B b l w) (hB : B ≤ w.heap.size) (k : Below w.heap.size w w2) : Buf B b l w2 := by
  obtain ⟨h1, v, lr, hb, ho, hne⟩ := h
  refine ⟨h1, v, lr, (k.block b (Array.getElem?_eq_some_iff.1 hb).1).trans hb, ⟨ho.1, ?_⟩, hne⟩
  rcases ho.2 with hn | ⟨g, cap, cur, hv, hg0, hg, rest⟩
  · exact .inl hn
  · exact .inr ⟨g, cap, cur, hv, hg0, (k.block g (Array.getElem?_eq_some_iff.1 hg).1).trans hg, rest⟩
theorem extract_end (s : ByteArray) (n : Nat) : (s.extract n s.size).data.toList = s.data.toList.drop n := by
  have hl : s.data.toList.length = s.size := Array.length_toList
  rw [ByteArray.data_extract, Array.toList_extract, List.extract_eq_take_drop]
  exact List.take_of_length_le (by rw [List.length_drop, hl]; omega)
theorem below_chain {w w0 w1 : World} (h : Below w.heap.size w w0) (k : Below w0.heap.size w0 w1) : Below w.heap.size w w1 := below_step h k
/-- What is asked of a value. -/
def dbgR (x : S27) : Prop := atomR x ∧ numR x ∧ x.f2.size ≤ 1024
theorem quo_size (x : S27) (h : dbgR x) : (quoL x).length ≤ 1050 := by
  have h1 := shw_len x h.2.1.1 h.2.1.2
  have h2 := h.2.2
  unfold quoL
  rw [List.length_append, List.length_cons, List.length_singleton]
  omega
def debF (s : ByteArray) (l : List S27) : ByteArray := ⟨(dbgL s.data.toList l []).toArray⟩
/-- The loop's state: at most g bytes are left. -/
def DgRel (s : ByteArray) (l : List S27) (R : List UInt8) (B g : Nat) (q : ByteArray) (j : Int) (w' : World) : Prop :=
  q.size ≤ g ∧ 0 ≤ j ∧ j ≤ l.length ∧ q.size ≤ s.size ∧ B ≤ w'.heap.size ∧ ∃ acc : List UInt8, Buf B B acc w' ∧ dbgL q.data.toList (l.drop j.toNat) acc = R ∧ acc.length + q.size + 1100 * (l.length - j.toNat) ≤ s.size + 1100 * l.length
set_option maxHeartbeats 25600000 in
set_option maxRecDepth 100000 in
theorem debug_walk (s : ByteArray) (l : List S27) (hl : l.length ≤ 1024) (hall : ∀ x ∈ l, dbgR x) (hs : s.size ≤ 1048576) (A : Option Addr) (c : Nat) (w : World) (ht : Tab w) (hC : kGA.C w A l.length l) :
    Calls Tryd.prog 16 #[.iface 71 (.agg #[.string s, .slice A l.length c])] w fun e w' => e = .returned (.string (debF s l)) ∧ Below w.heap.size w w' := by
  obtain ⟨r, hr⟩ : ∃ r, r = debF s l := ⟨_, rfl⟩
  rw [← hr]
  have HR := Lib.hid hr
  have HT0 := Lib.hid (tab_below ht)
  have HALL := Lib.hid hall
  have HC := Lib.hid hC
  have hnd := expr_no_debugger (.agg #[.string s, .slice A l.length c])
  clear hr ht hall hC
  go_enter Tryd.func16, Tryd.ntmps16
  go_wp2_with fail
  refine (expr_sql s l (by omega) A c w HC.out).mono ?_
  rintro e w0 ⟨rfl, hb0⟩
  have HB0 := Lib.hid hb0
  have HT := Lib.hid (tab_below (tab_at HT0.out hb0))
  have HC0 := Lib.hid (Kd.C_below HC.out hb0)
  clear hb0 HT0 HC
  go_wp2_with fail
  have H : DgRel s l (dbgL s.data.toList l []) w0.heap.size s.size s 0 (w0.alloc (.cells #[.slice none 0 0, .int .i64 0, .int .i8 0] 65)) := ⟨Nat.le_refl _, by omega, by omega, Nat.le_refl _, (below_alloc (Below.refl w0.heap.size w0) _).size, [], buf_fresh w0, rfl, by simp⟩
  have HB1 := Lib.hid (below_alloc (Below.refl w0.heap.size w0) (.cells #[.slice none 0 0, .int .i64 0, .int .i8 0] 65))
  go_loopg [3, 10] s.size (fun g v3 v10 w' => ∃ (q : ByteArray) (j : Int), v3 = .string q ∧ v10 = .int .i64 j ∧ DgRel s l (dbgL s.data.toList l []) w0.heap.size g q j w' ∧ Hid (Below w0.heap.size w0 w'))
  case atStart => exact ⟨s, 0, rfl, rfl, H, HB1⟩
  case round =>
    obtain ⟨q, j, rfl, rfl, ⟨hqg, hj0, hjl, hqs0, hL, acc, hbuf, hacc, hlen⟩, HB⟩ := hrel
    clear H HB1
    have hqs : q.data.toList.length = q.size := Array.length_toList
    obtain ⟨k0, hk0⟩ := index_is q (by omega)
    have HK0 := Lib.hid hk0
    have HBUF := Lib.hid hbuf
    have HACC := Lib.hid hacc
    clear hk0 hbuf hacc
    go_wp2_with fail
    refine (squirrel_zzIndex.calls k0 q _ (ixI q) _ HK0.out).mono ?_
    rintro e w1 ⟨rfl, ⟨n1, rfl⟩⟩
    have HD : Hid (Buf w0.heap.size w0.heap.size acc (wr.drewN n1)) := Lib.hid HBUF.out
    have BD := Lib.hid (pw_below_drewN HB.out n1)
    have hLd : w0.heap.size ≤ (wr.drewN n1).heap.size := hL
    clear HBUF HB hL HK0
    generalize wr.drewN n1 = wd at HD BD hLd ⊢
    rcases ixF_split q.data.toList 0 with ⟨hi, hno⟩ | ⟨pre, post, hsp, hpre, hi⟩
    · have hi' : ixI q = -1 := hi
      have hend := dbg_end (l.drop j.toNat) q.data.toList acc hno
      rw [HACC.out] at hend
      rw [hi']
      clear hi hi' hno HACC
      by_cases hj : j < (l.length : Int)
      · have hne : l.drop j.toNat ≠ [] := by
          intro h
          have := congrArg List.length h
          rw [List.length_drop] at this
          simp at this
          omega
        rw [if_neg hne] at hend
        have HRR : Hid ((⟨notE.toArray⟩ : ByteArray) = r) := Lib.hid (by rw [← hend, HR.out]; rfl)
        clear hend hne
        go_wp2_with fail
        go_ret
        exact ⟨by rw [← HRR.out]; rfl, below_chain HB0.out BD.out⟩
      · have he : l.drop j.toNat = [] := List.drop_eq_nil_of_le (by omega)
        rw [if_pos he] at hend
        have HA2 := Lib.hid hend
        clear hend he
        go_wp2_with fail
        refine (buf_write w0.heap.size w0.heap.size acc q _ HD.out hLd (by omega)).mono ?_
        rintro e w4 ⟨rfl, hB2, hb, _⟩
        have HB2 := Lib.hid hB2
        have BB2 := Lib.hid (below_weaken BD.out (Nat.le_refl _) hb)
        clear hB2 hb HD BD
        go_wp2_with fail
        refine (buf_string w0.heap.size w0.heap.size _ _ HB2.out).mono ?_
        rintro e w5 ⟨rfl, ⟨n5, rfl⟩⟩
        have HRR : Hid ((⟨(acc ++ q.data.toList).toArray⟩ : ByteArray) = r) := Lib.hid (by rw [← HA2.out, HR.out]; rfl)
        go_wp2_with fail
        go_ret
        exact ⟨by rw [← HRR.out]; rfl, below_chain HB0.out (pw_below_drewN BB2.out n5)⟩
    · have hl2 := congrArg List.length hsp
      rw [List.length_append, List.length_cons, hqs] at hl2
      have hi' : ixI q = (pre.length : Int) := by rw [ixI, hi, Nat.zero_add]
      rw [hi']
      cases gk with
      | zero => omega
      | succ g =>
        have e0 : (q.extract 0 pre.length).data.toList = pre := by
          rw [ByteArray.data_extract, Array.toList_extract, List.extract_eq_take_drop, List.drop_zero, Nat.sub_zero, hsp]
          exact List.take_left' rfl
        have e1 : (q.extract (pre.length + 1) q.size).data.toList = post := by
          rw [extract_end, hsp, show pre ++ 63 :: post = (pre ++ [63]) ++ post by simp]
          exact List.drop_left' (by simp)
        have hz : (q.extract 0 pre.length).size = pre.length := by simp; omega
        have hacc := HACC.out
        rw [hsp, dbg_pre _ pre _ _ hpre] at hacc
        have HA2 := Lib.hid hacc
        have HE0 := Lib.hid e0
        have HE1 := Lib.hid e1
        have p1 : (0 : Int) ≤ (pre.length : Int) := by omega
        have p2 : (pre.length : Int) ≤ (q.size : Int) := by omega
        have dm : ((pre.length : Int) == -1) = false := beq_eq_false_iff_ne.2 (by omega)
        have HL := Lib.hid hl2
        have HSP := Lib.hid hsp
        have hq0 : pre.length + 1 ≤ q.size := by omega
        clear hl2 hsp hi hi' hpre hacc HACC e0 e1 hqs
        cases hpost : post with
        | nil =>
          have hq1 : q.size ≤ pre.length + 1 := by
            have := HL.out
            rw [hpost] at this
            simp at this
            omega
          have hhead : post.head? ≠ some 63 := by rw [hpost]; simp
          clear hpost
          have p3 : (pre.length : Int) + 1 ≤ (q.size : Int) := by omega
          have p7 : (0 : Int) ≤ (pre.length : Int) + 1 := by omega
          by_cases hj : j < (l.length : Int)
          · have hx : l.drop j.toNat = rd_T27 l j :: l.drop (j.toNat + 1) := by
              rw [List.drop_eq_getElem_cons (by omega)]
              congr 1
              simp only [rd_T27]
              rw [List.getD_eq_getElem?_getD, List.getElem?_eq_getElem (by omega)]
              rfl
            have hmem : rd_T27 l j ∈ l := by
              have : rd_T27 l j ∈ l.drop j.toNat := by rw [hx]; exact List.mem_cons_self
              exact List.mem_of_mem_drop this
            have hdx := HALL.out _ hmem
            have hqs := quo_size _ hdx
            have hih := HA2.out
            rw [hx, dbg_one post hhead] at hih
            have HA3 := Lib.hid hih
            have hj1 : ¬ ((l.length : Int) < j + 1) := by omega
            have hsh : (shw (rd_T27 l j)).length ≤ 1048 := by
              have := hqs
              unfold quoL at this
              rw [List.length_append, List.length_cons, List.length_singleton] at this
              omega
            have HQ := Lib.hid hqs
            have HX := Lib.hid hdx
            clear hih hhead HA2 hx hmem hdx hqs
            go_wp2_with fail
            refine (buf_write w0.heap.size w0.heap.size acc (q.extract 0 pre.length) _ HD.out hLd (by rw [hz]; omega)).mono ?_
            rintro e w4 ⟨rfl, hB2, hb, _⟩
            rw [HE0.out] at hB2
            have HB2 := Lib.hid hB2
            have BB2 := Lib.hid (below_weaken BD.out (Nat.le_refl _) hb)
            have hL4 : w0.heap.size ≤ w4.heap.size := by have := hb.size; omega
            clear hB2 hb HD BD
            obtain ⟨ad, u, rfl, hK, hcell⟩ := one_cell rfl (Kd.C_below HC0.out BB2.out) j hj0 hj
            have hu : u = encG (rd_T27 l j) := by
              have hk : [u] = [encG (rd_T27 l j)] := hK
              injection hk
            subst hu
            clear hK
            obtain ⟨u, hu⟩ : ∃ u, u = encG (rd_T27 l j) := ⟨_, rfl⟩
            rw [← hu] at hcell
            have HU := Lib.hid hu
            clear hu
            go_wp2_with fail
            refine ((show Calls _ _ #[u] _ _ from HU.out ▸ text_is _ HX.out.1 HX.out.2.1 _ (tab_at HT.out BB2.out)) : Calls _ _ _ _ _).mono ?_
            rintro e w5 ⟨rfl, b5⟩
            have HB5 : Hid (Buf w0.heap.size w0.heap.size (acc ++ pre) w5) := Lib.hid (buf_below HB2.out hL4 b5)
            have BB5 := Lib.hid (below_step BB2.out b5)
            have hL5 : w0.heap.size ≤ w5.heap.size := by have := b5.size; omega
            clear HB2 BB2 b5 hL4
            have hcat1 : 1 + (shw (rd_T27 l j)).length ≤ 9223372036854775807 := by omega
            have hcat2 : 1 + (shw (rd_T27 l j)).length + 1 ≤ 9223372036854775807 := by omega
            go_wp2_with fail
            refine (buf_write w0.heap.size w0.heap.size (acc ++ pre) _ _ HB5.out hL5 (by simp only [List.length_append, ByteArray.size_append]; show acc.length + pre.length + (1 + (shw (rd_T27 l j)).length + 1) ≤ _; omega)).mono ?_
            rintro e w6 ⟨rfl, hB6, hb, _⟩
            have HB6 := Lib.hid hB6
            have BB6 := Lib.hid (below_weaken BB5.out (Nat.le_refl _) hb)
            have hL6 : w0.heap.size ≤ w6.heap.size := by have := hb.size; omega
            clear hB6 hb HB5 BB5 hL5
            go_wp2_with fail
            go_roundg g
            case measure => omega
            case rel =>
              have hsz : (q.extract (pre.length + 1) q.size).size = q.size - (pre.length + 1) := by simp
              have e3 : (j + 1).toNat = j.toNat + 1 := by omega
              refine ⟨q.extract (pre.length + 1) q.size, j + 1, rfl, rfl, ⟨by omega, by omega, by omega, by omega, hL6, _, HB6.out, ?_, ?_⟩, BB6⟩
              · rw [e3, HE1.out, ← HA3.out, bytes_app, bytes_app]
                rfl
              · rw [e3]
                simp only [List.length_append, bytes_app]
                show acc.length + pre.length + (1 + (shw (rd_T27 l j)).length + 1) + _ + _ ≤ _
                omega
          · have hx : l.drop j.toNat = [] := List.drop_eq_nil_of_le (by omega)
            have hih := HA2.out
            rw [hx, dbg_none post hhead] at hih
            have HRR : Hid ((⟨tooM.toArray⟩ : ByteArray) = r) := Lib.hid (by rw [hih, HR.out]; rfl)
            have hj1 : (l.length : Int) < j + 1 := by omega
            clear hih hhead HA2 hx
            go_wp2_with fail
            go_ret
            exact ⟨by rw [← HRR.out]; rfl, below_chain HB0.out BD.out⟩
        | cons d post' =>
          have hq1 : pre.length + 2 ≤ q.size := by
            have := HL.out
            rw [hpost] at this
            simp at this
            omega
          have p4 : (pre.length : Int) + 2 ≤ (q.size : Int) := by omega
          have p5 : (pre.length : Int) ≤ (pre.length : Int) + 2 := by omega
          have p6 : (0 : Int) ≤ (pre.length : Int) + 2 := by omega
          have htl : (q.extract pre.length (pre.length + 2)).toList = [63, d] := by
            rw [ByteArray.toList_eq, ByteArray.data_extract, Array.toList_extract, List.extract_eq_take_drop, HSP.out, List.drop_left' rfl, show pre.length + 2 - pre.length = 2 by omega, hpost]
            rfl
          by_cases hd : d = 63
          · have deq : ((q.extract pre.length (pre.length + 2)).toList == [63, 63]) = true := by rw [htl, hd]; rfl
            have e2 : (q.extract (pre.length + 2) q.size).data.toList = post' := by
              rw [extract_end, HSP.out, hpost, show pre ++ 63 :: d :: post' = (pre ++ [63, d]) ++ post' by simp]
              exact List.drop_left' (by simp)
            have hih := HA2.out
            rw [hpost, hd, dbg_two] at hih
            have HA3 := Lib.hid hih
            have HE2 := Lib.hid e2
            have d1 : ((q.size - pre.length : Nat) : Int) ≠ 1 := by omega
            clear hih HA2 e2 htl hd hpost HSP HE1 HL
            go_wp2_with fail
            refine (buf_write w0.heap.size w0.heap.size acc (q.extract 0 pre.length) _ HD.out hLd (by rw [hz]; omega)).mono ?_
            rintro e w4 ⟨rfl, hB2, hb, _⟩
            rw [HE0.out] at hB2
            have HB2 := Lib.hid hB2
            have BB2 := Lib.hid (below_weaken BD.out (Nat.le_refl _) hb)
            have hL4 : w0.heap.size ≤ w4.heap.size := by have := hb.size; omega
            clear hB2 hb HD BD
            go_wp2_with fail
            refine (buf_write w0.heap.size w0.heap.size (acc ++ pre) _ _ HB2.out hL4 (by simp only [List.length_append]; show acc.length + pre.length + 1 ≤ _; omega)).mono ?_
            rintro e w6 ⟨rfl, hB6, hb, _⟩
            have HB6 := Lib.hid hB6
            have BB6 := Lib.hid (below_weaken BB2.out (Nat.le_refl _) hb)
            have hL6 : w0.heap.size ≤ w6.heap.size := by have := hb.size; omega
            clear hB6 hb HB2 BB2 hL4
            go_wp2_with fail
            go_roundg g
            case measure => omega
            case rel =>
              have hsz : (q.extract (pre.length + 2) q.size).size = q.size - (pre.length + 2) := by simp
              refine ⟨q.extract (pre.length + 2) q.size, j, rfl, rfl, ⟨by omega, by omega, by omega, by omega, hL6, _, HB6.out, ?_, ?_⟩, BB6⟩
              · rw [HE2.out, ← HA3.out]
              · simp only [List.length_append]
                show acc.length + pre.length + 1 + _ + _ ≤ _
                omega
          · have deq : ((q.extract pre.length (pre.length + 2)).toList == [63, 63]) = false := by
              rw [htl]
              simpa using hd
            have hhead : post.head? ≠ some 63 := by rw [hpost]; simpa using hd
            clear htl hd hpost HSP
            have p3 : (pre.length : Int) + 1 ≤ (q.size : Int) := by omega
            have p7 : (0 : Int) ≤ (pre.length : Int) + 1 := by omega
            by_cases hj : j < (l.length : Int)
            · have hx : l.drop j.toNat = rd_T27 l j :: l.drop (j.toNat + 1) := by
                rw [List.drop_eq_getElem_cons (by omega)]
                congr 1
                simp only [rd_T27]
                rw [List.getD_eq_getElem?_getD, List.getElem?_eq_getElem (by omega)]
                rfl
              have hmem : rd_T27 l j ∈ l := by
                have : rd_T27 l j ∈ l.drop j.toNat := by rw [hx]; exact List.mem_cons_self
                exact List.mem_of_mem_drop this
              have hdx := HALL.out _ hmem
              have hqs := quo_size _ hdx
              have hih := HA2.out
              rw [hx, dbg_one post hhead] at hih
              have HA3 := Lib.hid hih
              have hj1 : ¬ ((l.length : Int) < j + 1) := by omega
              have hsh : (shw (rd_T27 l j)).length ≤ 1048 := by
                have := hqs
                unfold quoL at this
                rw [List.length_append, List.length_cons, List.length_singleton] at this
                omega
              have HQ := Lib.hid hqs
              have HX := Lib.hid hdx
              clear hih hhead HA2 hx hmem hdx hqs
              go_wp2_with fail
              refine (buf_write w0.heap.size w0.heap.size acc (q.extract 0 pre.length) _ HD.out hLd (by rw [hz]; omega)).mono ?_
              rintro e w4 ⟨rfl, hB2, hb, _⟩
              rw [HE0.out] at hB2
              have HB2 := Lib.hid hB2
              have BB2 := Lib.hid (below_weaken BD.out (Nat.le_refl _) hb)
              have hL4 : w0.heap.size ≤ w4.heap.size := by have := hb.size; omega
              clear hB2 hb HD BD
              obtain ⟨ad, u, rfl, hK, hcell⟩ := one_cell rfl (Kd.C_below HC0.out BB2.out) j hj0 hj
              have hu : u = encG (rd_T27 l j) := by
                have hk : [u] = [encG (rd_T27 l j)] := hK
                injection hk
              subst hu
              clear hK
              obtain ⟨u, hu⟩ : ∃ u, u = encG (rd_T27 l j) := ⟨_, rfl⟩
              rw [← hu] at hcell
              have HU := Lib.hid hu
              clear hu
              go_wp2_with fail
              refine ((show Calls _ _ #[u] _ _ from HU.out ▸ text_is _ HX.out.1 HX.out.2.1 _ (tab_at HT.out BB2.out)) : Calls _ _ _ _ _).mono ?_
              rintro e w5 ⟨rfl, b5⟩
              have HB5 : Hid (Buf w0.heap.size w0.heap.size (acc ++ pre) w5) := Lib.hid (buf_below HB2.out hL4 b5)
              have BB5 := Lib.hid (below_step BB2.out b5)
              have hL5 : w0.heap.size ≤ w5.heap.size := by have := b5.size; omega
              clear HB2 BB2 b5 hL4
              have hcat1 : 1 + (shw (rd_T27 l j)).length ≤ 9223372036854775807 := by omega
              have hcat2 : 1 + (shw (rd_T27 l j)).length + 1 ≤ 9223372036854775807 := by omega
              go_wp2_with fail
              refine (buf_write w0.heap.size w0.heap.size (acc ++ pre) _ _ HB5.out hL5 (by simp only [List.length_append, ByteArray.size_append]; show acc.length + pre.length + (1 + (shw (rd_T27 l j)).length + 1) ≤ _; omega)).mono ?_
              rintro e w6 ⟨rfl, hB6, hb, _⟩
              have HB6 := Lib.hid hB6
              have BB6 := Lib.hid (below_weaken BB5.out (Nat.le_refl _) hb)
              have hL6 : w0.heap.size ≤ w6.heap.size := by have := hb.size; omega
              clear hB6 hb HB5 BB5 hL5
              go_wp2_with fail
              go_roundg g
              case measure => omega
              case rel =>
                have hsz : (q.extract (pre.length + 1) q.size).size = q.size - (pre.length + 1) := by simp
                have e3 : (j + 1).toNat = j.toNat + 1 := by omega
                refine ⟨q.extract (pre.length + 1) q.size, j + 1, rfl, rfl, ⟨by omega, by omega, by omega, by omega, hL6, _, HB6.out, ?_, ?_⟩, BB6⟩
                · rw [e3, HE1.out, ← HA3.out, bytes_app, bytes_app]
                  rfl
                · rw [e3]
                  simp only [List.length_append, bytes_app]
                  show acc.length + pre.length + (1 + (shw (rd_T27 l j)).length + 1) + _ + _ ≤ _
                  omega
            · have hx : l.drop j.toNat = [] := List.drop_eq_nil_of_le (by omega)
              have hih := HA2.out
              rw [hx, dbg_none post hhead] at hih
              have HRR : Hid ((⟨tooM.toArray⟩ : ByteArray) = r) := Lib.hid (by rw [hih, HR.out]; rfl)
              have hj1 : (l.length : Int) < j + 1 := by omega
              clear hih hhead HA2 hx
              go_wp2_with fail
              go_ret
              exact ⟨by rw [← HRR.out]; rfl, below_chain HB0.out BD.out⟩
set_option maxRecDepth 100000 in
theorem expr_new (s : ByteArray) (A : Option Addr) (n c : Nat) (w : World) :
    Calls Tryd.prog 17 #[.string s, .slice A n c] w fun e w' => e = .returned (.iface 71 (.agg #[.string s, .slice A n c])) ∧ w' = w := by
  go_enter Tryd.func17, Tryd.ntmps17
  go_wp2_with fail
  go_ret
  exact ⟨rfl, rfl⟩
def impl_Debug.f (a0 : ByteArray) (l1 : List S27) : Option ByteArray :=
  if a0.size ≤ 1048576 ∧ l1.length ≤ 1024 ∧ l1.all (fun x => atomB x && (decide (-9223372036854775808 ≤ x.f1) && (decide (x.f1 ≤ 9223372036854775807) && decide (x.f2.size ≤ 1024)))) = true then some (debF a0 l1) else none
theorem debug_all {l1 : List S27} (h : l1.all (fun x => atomB x && (decide (-9223372036854775808 ≤ x.f1) && (decide (x.f1 ≤ 9223372036854775807) && decide (x.f2.size ≤ 1024)))) = true) : ∀ x ∈ l1, dbgR x := fun x hx => by
  have h1 := List.all_eq_true.1 h x hx
  simp only [Bool.and_eq_true, decide_eq_true_eq] at h1
  exact ⟨(atomB_iff x).1 h1.1, ⟨h1.2.1, h1.2.2.1⟩, h1.2.2.2⟩
set_option maxHeartbeats 1600000 in
set_option maxRecDepth 100000 in
theorem impl_Debug.calls (a0 : ByteArray) (A1 : Option Addr) (c1 : Nat) (l1 : List S27) (r : ByteArray) (w : World) (ht : Tab w) (hr1 : Kd.C k27 w A1 l1.length l1) (hc1 : l1.length ≤ c1) (h : impl_Debug.f a0 l1 = some r) :
    Calls Tryd.prog 8 #[.string a0, .slice A1 l1.length c1] w fun e w' => e = .returned (.string r) ∧ Below w.heap.size w w' := by
  unfold impl_Debug.f at h
  split at h
  · rename_i hg
    obtain ⟨hs, hl, hall0⟩ := hg
    have hall := debug_all hall0
    have H := Lib.hid (Option.some.inj h)
    have HT := Lib.hid (tab_below ht)
    have HGL := Lib.hid (goList_atoms l1 (fun x hx => (hall x hx).1) 0 (by omega) A1 c1 w hr1)
    have HD := Lib.hid (debug_walk a0 l1 hl hall hs)
    clear h hr1 hall hall0 hs hl ht
    go_enter Tryd.func8, Tryd.ntmps8
    go_wp2_with fail
    refine HGL.out.mono ?_
    rintro e w1 ⟨v, rfl, hR, hB⟩
    obtain ⟨A2, c2, e2, hl2, hC2⟩ := Kd.R_reads hR
    subst e2
    have HC2 := Lib.hid hC2
    have HB1 := Lib.hid hB
    clear hR hB hC2 HGL
    go_wp2_with fail
    refine (expr_new a0 A2 l1.length c2 w1).mono ?_
    rintro e w2 ⟨rfl, rfl⟩
    go_wp2_with fail
    refine (HD.out A2 c2 _ (tab_at HT.out HB1.out) HC2.out).mono ?_
    rintro e w3 ⟨rfl, hb⟩
    have HB3 := Lib.hid (below_chain HB1.out hb)
    clear hb
    rw [H.out]
    go_wp2_with fail
    go_ret
    exact ⟨rfl, HB3.out⟩
  · cases h
end Go.Proofs.YtabaldpjahcilaaDoor.H

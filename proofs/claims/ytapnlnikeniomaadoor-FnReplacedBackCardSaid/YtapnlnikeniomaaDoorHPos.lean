/-
  A CONTRACT: squirrel's replacePositionalPlaceholders writes a sign and numbers for question marks; two side by side are one (texts of at most 2^20 bytes, a sign of at most 1024; a world in which strconv's table lies), by the shelf's contracts of bytes.Buffer.
-/
import Derived.Test.YtapnlnikeniomaaDoorHNum
import Derived.Test.YtapnlnikeniomaaDoorHIndex
import Derived.Test.YtapnlnikeniomaaDoorHBuf
import Derived.Handy
import Derived.Lib.Hide
import Derived.Outline
import Derived.Deep.LoopGhost
namespace Go.Proofs.YtapnlnikeniomaaDoor.H
open Go.RowKit Go.Proofs.YtapnlnikeniomaaDoorW.PrintWords Go.Proofs.YtapnlnikeniomaaDoorW.PrintLast Go.Proofs.YtapnlnikeniomaaDoorW.PrintMore Go.Proofs.YtapnlnikeniomaaDoor.QL
set_option linter.unusedVariables false
set_option linter.unusedSimpArgs false

theorem bytes_app (a b : ByteArray) : (a ++ b).data.toList = a.data.toList ++ b.data.toList := by simp
theorem buf_below {B b : Nat} {l : List UInt8} {w w2 : World} (h : Buf B b l w) (hB : B ≤ w.heap.size) (k : Below w.heap.size w w2) : Buf B b l w2 := by
  obtain ⟨h1, v, lr, hb, ho, hne⟩ := h
  refine ⟨h1, v, lr, (k.block b (Array.getElem?_eq_some_iff.1 hb).1).trans hb, ⟨ho.1, ?_⟩, hne⟩
  rcases ho.2 with hn | ⟨g, cap, cur, hv, hg0, hg, rest⟩
  · exact .inl hn
  · exact .inr ⟨g, cap, cur, hv, hg0, (k.block g (Array.getElem?_eq_some_iff.1 hg).1).trans hg, rest⟩
def numF [Inhabited TabT] (p s : ByteArray) : ByteArray := ⟨(numL p.data.toList 0 s.data.toList).toArray⟩
/-- The loop's state: at most g bytes are left. -/
def PsRel [Inhabited TabT] (p s : ByteArray) (R : List UInt8) (B g : Nat) (q : ByteArray) (j : Int) (w' : World) : Prop :=
  q.size ≤ g ∧ 0 ≤ j ∧ j + q.size ≤ s.size ∧ j.toNat + mkL q.data.toList ≤ 511 ∧ B ≤ w'.heap.size ∧ ∃ acc : List UInt8, Buf B B acc w' ∧ acc ++ numL p.data.toList j.toNat q.data.toList = R ∧ acc.length + 1100 * q.size ≤ 1100 * s.size
theorem extract_end (s : ByteArray) (n : Nat) : (s.extract n s.size).data.toList = s.data.toList.drop n := by
  have hl : s.data.toList.length = s.size := Array.length_toList
  rw [ByteArray.data_extract, Array.toList_extract, List.extract_eq_take_drop]
  exact List.take_of_length_le (by rw [List.length_drop, hl]; omega)
set_option maxHeartbeats 25600000 in
set_option maxRecDepth 100000 in
theorem pos_walk [Inhabited TabT] (s p : ByteArray) (w : World) (ht : Tab w) (hs : s.size ≤ 1048576) (hp : p.size ≤ 1024) (hmk : mkL s.data.toList ≤ 511) :
    Calls Tryd.prog 23 #[.string s, .string p] w fun e w' => e = .returned (.tuple #[.string (numF p s), .nilIface]) ∧ Below w.heap.size w w' := by
  obtain ⟨r, hr⟩ : ∃ r, r = numF p s := ⟨_, rfl⟩
  rw [← hr]
  have HR := Lib.hid hr
  have HT := Lib.hid (tab_below ht)
  have HB0 := Lib.hid (Below.refl w.heap.size w)
  clear hr ht
  go_enter Tryd.func23, Tryd.ntmps23
  go_wp2_with fail
  have H : PsRel p s (numL p.data.toList 0 s.data.toList) w.heap.size s.size s 0 (w.alloc (.cells #[.slice none 0 0, .int .i64 0, .int .i8 0] 55)) := ⟨Nat.le_refl _, by omega, by omega, by simpa using hmk, (below_alloc HB0.out _).size, [], buf_fresh w, rfl, by simp⟩
  have HB1 := Lib.hid (below_alloc HB0.out (.cells #[.slice none 0 0, .int .i64 0, .int .i8 0] 55))
  obtain ⟨B, hBe⟩ : ∃ B, B = w.heap.size := ⟨_, rfl⟩
  have HBe := Lib.hid hBe
  clear HB0 hBe hmk
  go_loopg [0, 7] s.size (fun g v0 v7 w' => ∃ (q : ByteArray) (j : Int), v0 = .string q ∧ v7 = .int .i64 j ∧ PsRel p s (numL p.data.toList 0 s.data.toList) w.heap.size g q j w' ∧ Hid (Below w.heap.size w w'))
  case atStart => exact ⟨s, 0, rfl, rfl, H, HB1⟩
  case round =>
    obtain ⟨q, j, rfl, rfl, ⟨hqg, hj0, hjq, hmk, hL, acc, hbuf, hacc, hlen⟩, HB⟩ := hrel
    clear H HB1
    have hqs : q.data.toList.length = q.size := Array.length_toList
    obtain ⟨k0, hk0⟩ := index_is q (by omega)
    have HK0 := Lib.hid hk0
    have HMK := Lib.hid hmk
    clear hmk
    have HBUF := Lib.hid hbuf
    have HACC := Lib.hid hacc
    clear hk0 hbuf hacc
    go_wp2_with fail
    refine (squirrel_zzIndex.calls k0 q _ (ixI q) _ HK0.out).mono ?_
    rintro e w1 ⟨rfl, ⟨n1, rfl⟩⟩
    have HD : Hid (Buf w.heap.size w.heap.size acc (wr.drewN n1)) := Lib.hid HBUF.out
    have BD := Lib.hid (pw_below_drewN HB.out n1)
    have hLd : w.heap.size ≤ (wr.drewN n1).heap.size := hL
    clear HBUF HB hL HK0
    generalize wr.drewN n1 = wd at HD BD hLd ⊢
    rcases ixF_split q.data.toList 0 with ⟨hi, hno⟩ | ⟨pre, post, hsp, hpre, hi⟩
    · have hi' : ixI q = -1 := hi
      have hself := numL_self p.data.toList j.toNat q.data.toList hno
      have HA2 : Hid (acc ++ q.data.toList = numL p.data.toList 0 s.data.toList) := by
        have := HACC.out
        rw [hself] at this
        exact Lib.hid this
      rw [hi']
      clear hi hi' hno hself HACC
      go_wp2_with fail
      refine (buf_write w.heap.size w.heap.size acc q _ HD.out hLd (by omega)).mono ?_
      rintro e w4 ⟨rfl, hB2, hb, _⟩
      have HB2 := Lib.hid hB2
      have BB2 := Lib.hid (below_weaken BD.out (Nat.le_refl _) hb)
      clear hB2 hb HD BD
      go_wp2_with fail
      refine (buf_string w.heap.size w.heap.size _ _ HB2.out).mono ?_
      rintro e w5 ⟨rfl, ⟨n5, rfl⟩⟩
      have HRR : Hid ((⟨(acc ++ q.data.toList).toArray⟩ : ByteArray) = r) := Lib.hid (by rw [HA2.out, HR.out]; rfl)
      go_wp2_with fail
      go_ret2
      exact ⟨by rw [← HRR.out]; rfl, pw_below_drewN BB2.out n5⟩
    · have hl := congrArg List.length hsp
      rw [List.length_append, List.length_cons, hqs] at hl
      have hi' : ixI q = (pre.length : Int) := by rw [ixI, hi, Nat.zero_add]
      rw [hi']
      cases gk with
      | zero => omega
      | succ g =>
        have e0 : (q.extract 0 pre.length).data.toList = pre := by
          rw [ByteArray.data_extract, Array.toList_extract, List.extract_eq_take_drop, List.drop_zero, Nat.sub_zero, hsp]
          exact List.take_left' rfl
        have e1 : (q.extract (pre.length + 1) q.size).data.toList = post := by
          rw [extract_end, hsp, show pre ++ 63 :: post = (pre ++ [63]) ++ post by simp]
          exact List.drop_left' (by simp)
        have hz : (q.extract 0 pre.length).size = pre.length := by simp; omega
        have hacc := HACC.out
        rw [hsp, numL_pre p.data.toList j.toNat pre _ hpre] at hacc
        have HA2 := Lib.hid hacc
        have HE0 := Lib.hid e0
        have HE1 := Lib.hid e1
        have p1 : (0 : Int) ≤ (pre.length : Int) := by omega
        have p2 : (pre.length : Int) ≤ (q.size : Int) := by omega
        have dm : ((pre.length : Int) == -1) = false := beq_eq_false_iff_ne.2 (by omega)
        have HL := Lib.hid hl
        have HSP := Lib.hid hsp
        have hmk2 := HMK.out
        rw [hsp, mk_pre pre _ hpre] at hmk2
        have HMK2 := Lib.hid hmk2
        clear hmk2 HMK
        clear hl hsp hi hi' hpre hacc HACC e0 e1 hqs
        cases hpost : post with
        | nil =>
          have hq1 : q.size ≤ pre.length + 1 := by
            have := HL.out
            rw [hpost] at this
            simp at this
            omega
          have hq0 : pre.length + 1 ≤ q.size := by
            have := HL.out
            omega
          have hhead : post.head? ≠ some 63 := by rw [hpost]; simp
          have p3 : (pre.length : Int) + 1 ≤ (q.size : Int) := by omega
          clear hpost
          have hih := HA2.out
          rw [numL_one p.data.toList j.toNat post hhead] at hih
          have HA3 := Lib.hid hih
          have hhead' := hhead
          clear hih hhead HA2
          have hmk3 := HMK2.out
          rw [mk_one post hhead'] at hmk3
          have HMK3 := Lib.hid hmk3
          have hj9 : (j + 1).toNat ≤ 511 := by omega
          have hI := numD_short (j + 1).toNat (by omega)
          clear hmk3 hhead'
          have hcat : p.size + (numD (j + 1).toNat).length ≤ 9223372036854775807 := by omega
          go_wp2_with fail
          refine (buf_write w.heap.size w.heap.size acc (q.extract 0 pre.length) _ HD.out hLd (by rw [hz]; omega)).mono ?_
          rintro e w4 ⟨rfl, hB2, hb, _⟩
          rw [HE0.out] at hB2
          have HB2 := Lib.hid hB2
          have BB2 := Lib.hid (below_weaken BD.out (Nat.le_refl _) hb)
          have hL4 : w.heap.size ≤ w4.heap.size := by have := hb.size; omega
          clear hB2 hb HD BD
          go_wp2_with fail
          have hit := itoa_at (j + 1).toNat hj9 _ (tab_at HT.out BB2.out)
          rw [Int.toNat_of_nonneg (by omega : (0 : Int) ≤ j + 1)] at hit
          refine hit.mono ?_
          rintro e w5 ⟨rfl, b5⟩
          have HB5 : Hid (Buf w.heap.size w.heap.size (acc ++ pre) w5) := Lib.hid (buf_below HB2.out hL4 b5)
          have BB5 := Lib.hid (below_step BB2.out b5)
          have hL5 : w.heap.size ≤ w5.heap.size := by have := b5.size; omega
          clear HB2 BB2 b5 hL4
          go_wp2_with fail
          refine (buf_write w.heap.size w.heap.size (acc ++ pre) _ _ HB5.out hL5 (by simp only [List.length_append, ByteArray.size_append]; show acc.length + pre.length + (p.size + (numD (j + 1).toNat).length) ≤ _; omega)).mono ?_
          rintro e w6 ⟨rfl, hB6, hb, _⟩
          have HB6 := Lib.hid hB6
          have BB6 := Lib.hid (below_weaken BB5.out (Nat.le_refl _) hb)
          have hL6 : w.heap.size ≤ w6.heap.size := by have := hb.size; omega
          clear hB6 hb HB5 BB5 hL5
          go_wp2_with fail
          go_roundg g
          case measure => omega
          case rel =>
            have hsz : (q.extract (pre.length + 1) q.size).size = q.size - (pre.length + 1) := by simp
            have hps : p.data.toList.length = p.size := Array.length_toList
            refine ⟨q.extract (pre.length + 1) q.size, j + 1, rfl, rfl, ⟨by omega, by omega, by omega, by rw [HE1.out]; have := HMK3.out; omega, hL6, _, HB6.out, ?_, ?_⟩, BB6⟩
            · have e3 : (j + 1).toNat = j.toNat + 1 := by omega
              have ha := HA3.out
              rw [e3, HE1.out, ← ha, bytes_app]
              simp only [List.append_assoc]
            · simp only [List.length_append, bytes_app]
              rw [hps]
              show acc.length + pre.length + (p.size + (numD (j + 1).toNat).length) + _ ≤ _
              omega
        | cons d post' =>
          have hq1 : pre.length + 2 ≤ q.size := by
            have := HL.out
            rw [hpost] at this
            simp at this
            omega
          have p4 : (pre.length : Int) + 2 ≤ (q.size : Int) := by omega
          have p5 : (pre.length : Int) ≤ (pre.length : Int) + 2 := by omega
          have p6 : (0 : Int) ≤ (pre.length : Int) + 2 := by omega
          have p3 : (pre.length : Int) + 1 ≤ (q.size : Int) := by omega
          have htl : (q.extract pre.length (pre.length + 2)).toList = [63, d] := by
            rw [ByteArray.toList_eq, ByteArray.data_extract, Array.toList_extract, List.extract_eq_take_drop, HSP.out, List.drop_left' rfl, show pre.length + 2 - pre.length = 2 by omega, hpost]
            rfl
          by_cases hd : d = 63
          · have deq : ((q.extract pre.length (pre.length + 2)).toList == [63, 63]) = true := by rw [htl, hd]; rfl
            have e2 : (q.extract (pre.length + 2) q.size).data.toList = post' := by
              rw [extract_end, HSP.out, hpost, show pre ++ 63 :: d :: post' = (pre ++ [63, d]) ++ post' by simp]
              exact List.drop_left' (by simp)
            have hih := HA2.out
            rw [hpost, hd, numL_two] at hih
            have hmk3 := HMK2.out
            rw [hpost, hd, mk_two] at hmk3
            have HMK3 := Lib.hid hmk3
            clear hmk3
            have HA3 := Lib.hid hih
            have HE2 := Lib.hid e2
            have d1 : ((q.size - pre.length : Nat) : Int) ≠ 1 := by omega
            clear hih HA2 e2 htl hd hpost HSP HE1 HL
            go_wp2_with fail
            refine (buf_write w.heap.size w.heap.size acc (q.extract 0 pre.length) _ HD.out hLd (by rw [hz]; omega)).mono ?_
            rintro e w4 ⟨rfl, hB2, hb, _⟩
            rw [HE0.out] at hB2
            have HB2 := Lib.hid hB2
            have BB2 := Lib.hid (below_weaken BD.out (Nat.le_refl _) hb)
            have hL4 : w.heap.size ≤ w4.heap.size := by have := hb.size; omega
            clear hB2 hb HD BD
            go_wp2_with fail
            refine (buf_write w.heap.size w.heap.size (acc ++ pre) _ _ HB2.out hL4 (by simp only [List.length_append]; show acc.length + pre.length + 1 ≤ _; omega)).mono ?_
            rintro e w6 ⟨rfl, hB6, hb, _⟩
            have HB6 := Lib.hid hB6
            have BB6 := Lib.hid (below_weaken BB2.out (Nat.le_refl _) hb)
            have hL6 : w.heap.size ≤ w6.heap.size := by have := hb.size; omega
            clear hB6 hb HB2 BB2 hL4
            go_wp2_with fail
            go_roundg g
            case measure => omega
            case rel =>
              have hsz : (q.extract (pre.length + 2) q.size).size = q.size - (pre.length + 2) := by simp
              refine ⟨q.extract (pre.length + 2) q.size, j, rfl, rfl, ⟨by omega, by omega, by omega, by rw [HE2.out]; exact HMK3.out, hL6, _, HB6.out, ?_, ?_⟩, BB6⟩
              · rw [HE2.out, ← HA3.out]
                simp only [List.append_assoc]
                rfl
              · simp only [List.length_append]
                show acc.length + pre.length + 1 + _ ≤ _
                omega
          · have deq : ((q.extract pre.length (pre.length + 2)).toList == [63, 63]) = false := by
              rw [htl]
              simpa using hd
            have hhead : post.head? ≠ some 63 := by rw [hpost]; simpa using hd
            clear htl hd hpost HSP
            have hih := HA2.out
            rw [numL_one p.data.toList j.toNat post hhead] at hih
            have HA3 := Lib.hid hih
            have hhead' := hhead
            clear hih hhead HA2
            have hmk3 := HMK2.out
            rw [mk_one post hhead'] at hmk3
            have HMK3 := Lib.hid hmk3
            have hj9 : (j + 1).toNat ≤ 511 := by omega
            have hI := numD_short (j + 1).toNat (by omega)
            clear hmk3 hhead'
            have hcat : p.size + (numD (j + 1).toNat).length ≤ 9223372036854775807 := by omega
            go_wp2_with fail
            refine (buf_write w.heap.size w.heap.size acc (q.extract 0 pre.length) _ HD.out hLd (by rw [hz]; omega)).mono ?_
            rintro e w4 ⟨rfl, hB2, hb, _⟩
            rw [HE0.out] at hB2
            have HB2 := Lib.hid hB2
            have BB2 := Lib.hid (below_weaken BD.out (Nat.le_refl _) hb)
            have hL4 : w.heap.size ≤ w4.heap.size := by have := hb.size; omega
            clear hB2 hb HD BD
            go_wp2_with fail
            have hit := itoa_at (j + 1).toNat hj9 _ (tab_at HT.out BB2.out)
            rw [Int.toNat_of_nonneg (by omega : (0 : Int) ≤ j + 1)] at hit
            refine hit.mono ?_
            rintro e w5 ⟨rfl, b5⟩
            have HB5 : Hid (Buf w.heap.size w.heap.size (acc ++ pre) w5) := Lib.hid (buf_below HB2.out hL4 b5)
            have BB5 := Lib.hid (below_step BB2.out b5)
            have hL5 : w.heap.size ≤ w5.heap.size := by have := b5.size; omega
            clear HB2 BB2 b5 hL4
            go_wp2_with fail
            refine (buf_write w.heap.size w.heap.size (acc ++ pre) _ _ HB5.out hL5 (by simp only [List.length_append, ByteArray.size_append]; show acc.length + pre.length + (p.size + (numD (j + 1).toNat).length) ≤ _; omega)).mono ?_
            rintro e w6 ⟨rfl, hB6, hb, _⟩
            have HB6 := Lib.hid hB6
            have BB6 := Lib.hid (below_weaken BB5.out (Nat.le_refl _) hb)
            have hL6 : w.heap.size ≤ w6.heap.size := by have := hb.size; omega
            clear hB6 hb HB5 BB5 hL5
            go_wp2_with fail
            go_roundg g
            case measure => omega
            case rel =>
              have hsz : (q.extract (pre.length + 1) q.size).size = q.size - (pre.length + 1) := by simp
              have hps : p.data.toList.length = p.size := Array.length_toList
              refine ⟨q.extract (pre.length + 1) q.size, j + 1, rfl, rfl, ⟨by omega, by omega, by omega, by rw [HE1.out]; have := HMK3.out; omega, hL6, _, HB6.out, ?_, ?_⟩, BB6⟩
              · have e3 : (j + 1).toNat = j.toNat + 1 := by omega
                have ha := HA3.out
                rw [e3, HE1.out, ← ha, bytes_app]
                simp only [List.append_assoc]
              · simp only [List.length_append, bytes_app]
                rw [hps]
                show acc.length + pre.length + (p.size + (numD (j + 1).toNat).length) + _ ≤ _
                omega
end Go.Proofs.YtapnlnikeniomaaDoor.H

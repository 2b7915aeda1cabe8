/-
  A CONTRACT: sqlx's Rebind writes a kind's marks with numbers for question marks (texts of at most 2^20 bytes; a world in which strconv's table lies).
-/
import Derived.Test.YtnmhoghmhglimaaDoorHRow
import Derived.Test.YtnmhoghmhglimaaDoorHIndex
import Derived.Test.YtnmhoghmhglimaaDoorHBuf
import Derived.Handy
import Derived.Lib.Hide
import Derived.Outline
import Derived.Deep.LoopGhost
namespace Go.Proofs.YtnmhoghmhglimaaDoor.H
open Go.RowKit Go.Proofs.YtnmhoghmhglimaaDoorW.PrintWords Go.Proofs.YtnmhoghmhglimaaDoorW.PrintLast Go.Proofs.YtnmhoghmhglimaaDoorW.PrintMore Go.Proofs.YtnmhoghmhglimaaDoor.QL
set_option linter.unusedVariables false
set_option linter.unusedSimpArgs false

def markB (kind : Int) : List UInt8 := if kind = 2 then [36] else if kind = 3 then [58, 97, 114, 103] else if kind = 4 then [64, 112] else []
def rebL (kind : Int) : Nat → List UInt8 → List UInt8
  | _, [] => []
  | n, c :: t => if c = 63 then markB kind ++ Lib.itoa ((n + 1 : Nat) : Int) ++ rebL kind (n + 1) t else c :: rebL kind n t
theorem rebL_pre (kind : Int) (n : Nat) : ∀ (pre rest : List UInt8), (∀ c ∈ pre, c ≠ 63) → rebL kind n (pre ++ rest) = pre ++ rebL kind n rest
  | [], rest, h => rfl
  | c :: t, rest, h => by
    have h1 := List.forall_mem_cons.1 h
    rw [List.cons_append, rebL, if_neg h1.1, rebL_pre kind n t rest h1.2]
    rfl
def sqlx_Rebind.f (a0 : Int) (a1 : ByteArray) : Option ByteArray := if a1.size ≤ 1048576 then some (if a0 = 1 ∨ a0 = 0 then a1 else ⟨(rebL a0 0 a1.data.toList).toArray⟩) else none
/-- The loop's state: at most g bytes are left. -/
def RbRel (kind : Int) (s : ByteArray) (B : Nat) (R : List UInt8) (g : Nat) (q : ByteArray) (v : Value) (j : Int) (w' : World) : Prop :=
  q.size ≤ g ∧ 0 ≤ j ∧ j + q.size ≤ s.size ∧ ∃ acc : List UInt8, Row B acc v w' ∧ acc ++ rebL kind j.toNat q.data.toList = R ∧ acc.length + 30 * q.size ≤ 30 * s.size

theorem extract_end (s : ByteArray) (n : Nat) : (s.extract n s.size).data.toList = s.data.toList.drop n := by
  have hl : s.data.toList.length = s.size := Array.length_toList
  rw [ByteArray.data_extract, Array.toList_extract, List.extract_eq_take_drop]
  exact List.take_of_length_le (by rw [List.length_drop, hl]; omega)
set_option maxHeartbeats 25600000 in
set_option maxRecDepth 100000 in
theorem sqlx_Rebind.calls (a0 : Int) (a1 : ByteArray) (r : ByteArray) (w : World) (ht : Tab w) (h : sqlx_Rebind.f a0 a1 = some r) :
    Calls Tryd.prog 49 #[.int .i64 a0, .string a1] w fun e w' => e = .returned (.string r) ∧ Below w.heap.size w w' := by
  unfold sqlx_Rebind.f at h
  by_cases hs : a1.size ≤ 1048576
  · rw [if_pos hs] at h
    have HR := Lib.hid (Option.some.inj h)
    clear h
    by_cases hk : a0 = 1
    · subst hk
      go_enter Tryd.func49, Tryd.ntmps49
      go_wp2_with fail
      go_ret
      refine ⟨?_, Below.refl _ _⟩
      rw [← HR.out, if_pos (by simp)]
      rfl
    by_cases hk0 : a0 = 0
    · subst hk0
      go_enter Tryd.func49, Tryd.ntmps49
      go_wp2_with fail
      go_ret
      refine ⟨?_, Below.refl _ _⟩
      rw [← HR.out, if_pos (by simp)]
      rfl
    have d1 : (a0 == 1) = false := beq_eq_false_iff_ne.mpr hk
    have d0 : (a0 == 0) = false := beq_eq_false_iff_ne.mpr hk0
    rw [if_neg (by omega)] at HR
    have HT := Lib.hid (tab_below ht)
    clear ht hk hk0
    obtain ⟨k0, hk0⟩ := index_is a1 hs
    have HK0 := Lib.hid hk0
    clear hk0
    go_enter Tryd.func49, Tryd.ntmps49
    go_wp2_with (first | (at_make; refine row_make w w.heap.size rfl _ _ rfl _ (a1.size + 10) rfl rfl (by omega) (by omega) (Below.refl _ _) (Nat.le_refl _) ?_; rintro v0 w0 hrow hb; refine Hid.out ?_))
    refine Lib.hid ?_
    go_wp2_with fail
    refine (sqlx_zzIndex.calls k0 a1 _ (ixI a1) _ HK0.out).mono ?_
    rintro e w1 ⟨rfl, ⟨n1, rfl⟩⟩
    go_wp2_with fail
    have H : RbRel a0 a1 w.heap.size (rebL a0 0 a1.data.toList) a1.size a1 v0 0 (w0.drewN n1) := ⟨Nat.le_refl _, by omega, by omega, [], hrow, rfl, by simp⟩
    have HB0 := Lib.hid (pw_below_drewN hb n1)
    clear hrow hb HK0
    go_loopg [1, 5, 6, 7] a1.size (fun g v1 v5 v6 v7 w' => ∃ (q : ByteArray) (j : Int), v1 = .string q ∧ v6 = .int .i64 (ixI q) ∧ v7 = .int .i64 j ∧ RbRel a0 a1 w.heap.size (rebL a0 0 a1.data.toList) g q v5 j w' ∧ Hid (Below w.heap.size w w'))
    case atStart => exact ⟨a1, 0, rfl, rfl, rfl, H, HB0⟩
    case round =>
      obtain ⟨q, j, rfl, rfl, rfl, HF, HB⟩ := hrel
      clear H HB0
      obtain ⟨hqg, hj0, hjq, acc, hrow, hacc, hlen⟩ := HF
      have hqs : q.data.toList.length = q.size := Array.length_toList
      rcases ixF_split q.data.toList 0 with ⟨hi, hno⟩ | ⟨pre, post, hsp, hpre, hi⟩
      · have hi' : ixI q = -1 := hi
        rw [hi']
        have HRW := Lib.hid hrow
        clear hrow
        have hrest : rebL a0 j.toNat q.data.toList = q.data.toList := by
          have := rebL_pre a0 j.toNat q.data.toList [] hno
          rw [List.append_nil] at this
          rw [this]
          exact List.append_nil _
        rw [hrest] at hacc
        have HACC := Lib.hid hacc
        clear hacc hrest hi hi' hno
        go_wp2_with (first | ((with_reducible refine gate_builtin (b := .append) (xs := #[.tmp 53, .tmp 54]) rfl ?_); at_builtin; refine row_appStr (w0 := w) w.heap.size rfl (.tmp 53) (.tmp 54) 9 Tryd.underlying9 rfl u5 acc q rfl rfl HRW.out HB.out HB.out.size (by omega) ?_))
        intro v1 w1 h1 h2
        have hcv := row_string h1
        go_wp2_with fail
        go_ret
        refine ⟨?_, h2⟩
        rw [← HR.out, ← HACC.out]
        rfl
      · have hl := congrArg List.length hsp
        rw [List.length_append, List.length_cons, hqs] at hl
        have hi' : ixI q = (pre.length : Int) := by rw [ixI, hi, Nat.zero_add]
        rw [hi']
        cases gk with
        | zero => omega
        | succ g =>
          have e0 : List.take pre.length q.data.toList = pre := by
            rw [hsp]
            simp
          have e1 : (q.extract (pre.length + 1) q.size).data.toList = post := by
            rw [extract_end, hsp, show pre ++ 63 :: post = (pre ++ [63]) ++ post by simp]
            exact List.drop_left' (by simp)
          rw [hsp, rebL_pre a0 j.toNat pre _ hpre, rebL, if_pos rfl] at hacc
          obtain ⟨q2, hq2⟩ : ∃ q2, q2 = q.extract (pre.length + 1) q.size := ⟨_, rfl⟩
          rw [← hq2] at e1
          have hs2 : q2.size + pre.length + 1 = q.size := by rw [hq2]; simp; omega
          obtain ⟨k1, hk1⟩ := index_is q2 (by omega)
          have HK1 := Lib.hid hk1
          have HRW := Lib.hid hrow
          have HACC := Lib.hid hacc
          have HE0 := Lib.hid e0
          have HE1 := Lib.hid e1
          have HQ2 := Lib.hid hq2
          have p1 : (0 : Int) ≤ (pre.length : Int) := by omega
          have p2 : (pre.length : Int) ≤ (q.size : Int) := by omega
          have dm : ((pre.length : Int) != -1) = true := bne_iff_ne.mpr (by omega)
          have hpl : (q.extract 0 pre.length).size = pre.length := by simp; omega
          have hpq : pre.length + 1 ≤ q.size := by omega
          have HL := Lib.hid hl
          clear hl hk1 hrow hacc e0 e1 hq2 hi hi' hsp hpre hqs
          by_cases k2 : a0 = 2
          · have MK := Lib.hid (show markB a0 = [36] by rw [markB, if_pos k2])
            have f2 : (a0 == 2) = true := beq_iff_eq.mpr k2
            clear k2
            go_wp2_with (first | ((with_reducible refine gate_builtin (b := .append) (xs := #[.tmp 23, .tmp 26]) rfl ?_); at_builtin; refine row_appStr (w0 := w) w.heap.size rfl (.tmp 23) (.tmp 26) 9 Tryd.underlying9 rfl u5 acc _ rfl rfl HRW.out HB.out HB.out.size (by omega) ?_))
            intro v1 w1 r1 b1
            rw [HE0.out] at r1
            go_wp2_with (first | ((with_reducible refine gate_builtin (b := .append) (xs := #[.tmp 31, .tmp 32]) rfl ?_); at_builtin; refine row_appN (w0 := w) w.heap.size rfl (.tmp 31) (.tmp 32) rfl v1 _ [36] 1 rfl _ rfl rfl rfl r1 b1 b1.size (by simp only [List.length_append, List.length_cons, List.length_nil]; omega) ?_))
            intro v2 w2 r2 b2
            go_wp2_with fail
            refine (row_appInt w.heap.size _ v2 (j + 1) (by omega) (by omega) _ r2 b2.size (by simp only [List.length_append, List.length_cons, List.length_nil]; omega) (tab_on HT.out b2)).mono ?_
            rintro e w3 ⟨v3, rfl, r3, b3⟩
            have B3 := Lib.hid (below_on b2 (Nat.le_refl _) b3)
            have R3 := Lib.hid r3
            clear r1 b1 r2 b2 r3 b3
            go_wp2_with fail
            rw [← HQ2.out]
            refine (sqlx_zzIndex.calls k1 q2 _ (ixI q2) _ HK1.out).mono ?_
            rintro e w4 ⟨rfl, ⟨n4, rfl⟩⟩
            go_wp2_with fail
            go_roundg g
            case measure => omega
            case rel =>
              refine ⟨q2, j + 1, rfl, rfl, rfl, ⟨by omega, by omega, by omega, _, R3.out, ?_, ?_⟩, Lib.hid (pw_below_drewN B3.out n4)⟩
              · have e3 : (j + 1).toNat = j.toNat + 1 := by omega
                have e4 : ((j.toNat + 1 : Nat) : Int) = j + 1 := by omega
                have ha := HACC.out
                rw [MK.out, e4] at ha
                rw [e3, HE1.out, ← ha]
                simp only [List.append_assoc]
              · have hI := Lib.itoa_length_le (j + 1) (by omega) (by omega)
                simp only [List.length_append, List.length_cons, List.length_nil]
                omega
          by_cases k3 : a0 = 3
          · have MK := Lib.hid (show markB a0 = [58, 97, 114, 103] by rw [markB, if_neg k2, if_pos k3])
            have f3 : (a0 == 3) = true := beq_iff_eq.mpr k3
            have f2 : (a0 == 2) = false := beq_eq_false_iff_ne.mpr k2
            clear k2 k3
            go_wp2_with (first | ((with_reducible refine gate_builtin (b := .append) (xs := #[.tmp 23, .tmp 26]) rfl ?_); at_builtin; refine row_appStr (w0 := w) w.heap.size rfl (.tmp 23) (.tmp 26) 9 Tryd.underlying9 rfl u5 acc _ rfl rfl HRW.out HB.out HB.out.size (by omega) ?_))
            intro v1 w1 r1 b1
            rw [HE0.out] at r1
            go_wp2_with (first | ((with_reducible refine gate_builtin (b := .append) (xs := #[.tmp 36, .tmp 37]) rfl ?_); at_builtin; refine row_appN (w0 := w) w.heap.size rfl (.tmp 36) (.tmp 37) rfl v1 _ [58, 97, 114, 103] 4 rfl _ rfl rfl rfl r1 b1 b1.size (by simp only [List.length_append, List.length_cons, List.length_nil]; omega) ?_))
            intro v2 w2 r2 b2
            go_wp2_with fail
            refine (row_appInt w.heap.size _ v2 (j + 1) (by omega) (by omega) _ r2 b2.size (by simp only [List.length_append, List.length_cons, List.length_nil]; omega) (tab_on HT.out b2)).mono ?_
            rintro e w3 ⟨v3, rfl, r3, b3⟩
            have B3 := Lib.hid (below_on b2 (Nat.le_refl _) b3)
            have R3 := Lib.hid r3
            clear r1 b1 r2 b2 r3 b3
            go_wp2_with fail
            rw [← HQ2.out]
            refine (sqlx_zzIndex.calls k1 q2 _ (ixI q2) _ HK1.out).mono ?_
            rintro e w4 ⟨rfl, ⟨n4, rfl⟩⟩
            go_wp2_with fail
            go_roundg g
            case measure => omega
            case rel =>
              refine ⟨q2, j + 1, rfl, rfl, rfl, ⟨by omega, by omega, by omega, _, R3.out, ?_, ?_⟩, Lib.hid (pw_below_drewN B3.out n4)⟩
              · have e3 : (j + 1).toNat = j.toNat + 1 := by omega
                have e4 : ((j.toNat + 1 : Nat) : Int) = j + 1 := by omega
                have ha := HACC.out
                rw [MK.out, e4] at ha
                rw [e3, HE1.out, ← ha]
                simp only [List.append_assoc]
              · have hI := Lib.itoa_length_le (j + 1) (by omega) (by omega)
                simp only [List.length_append, List.length_cons, List.length_nil]
                omega
          by_cases k4 : a0 = 4
          · have MK := Lib.hid (show markB a0 = [64, 112] by rw [markB, if_neg k2, if_neg k3, if_pos k4])
            have f4 : (a0 == 4) = true := beq_iff_eq.mpr k4
            have f2 : (a0 == 2) = false := beq_eq_false_iff_ne.mpr k2
            have f3 : (a0 == 3) = false := beq_eq_false_iff_ne.mpr k3
            clear k2 k3 k4
            go_wp2_with (first | ((with_reducible refine gate_builtin (b := .append) (xs := #[.tmp 23, .tmp 26]) rfl ?_); at_builtin; refine row_appStr (w0 := w) w.heap.size rfl (.tmp 23) (.tmp 26) 9 Tryd.underlying9 rfl u5 acc _ rfl rfl HRW.out HB.out HB.out.size (by omega) ?_))
            intro v1 w1 r1 b1
            rw [HE0.out] at r1
            go_wp2_with (first | ((with_reducible refine gate_builtin (b := .append) (xs := #[.tmp 41, .tmp 42]) rfl ?_); at_builtin; refine row_appN (w0 := w) w.heap.size rfl (.tmp 41) (.tmp 42) rfl v1 _ [64, 112] 2 rfl _ rfl rfl rfl r1 b1 b1.size (by simp only [List.length_append, List.length_cons, List.length_nil]; omega) ?_))
            intro v2 w2 r2 b2
            go_wp2_with fail
            refine (row_appInt w.heap.size _ v2 (j + 1) (by omega) (by omega) _ r2 b2.size (by simp only [List.length_append, List.length_cons, List.length_nil]; omega) (tab_on HT.out b2)).mono ?_
            rintro e w3 ⟨v3, rfl, r3, b3⟩
            have B3 := Lib.hid (below_on b2 (Nat.le_refl _) b3)
            have R3 := Lib.hid r3
            clear r1 b1 r2 b2 r3 b3
            go_wp2_with fail
            rw [← HQ2.out]
            refine (sqlx_zzIndex.calls k1 q2 _ (ixI q2) _ HK1.out).mono ?_
            rintro e w4 ⟨rfl, ⟨n4, rfl⟩⟩
            go_wp2_with fail
            go_roundg g
            case measure => omega
            case rel =>
              refine ⟨q2, j + 1, rfl, rfl, rfl, ⟨by omega, by omega, by omega, _, R3.out, ?_, ?_⟩, Lib.hid (pw_below_drewN B3.out n4)⟩
              · have e3 : (j + 1).toNat = j.toNat + 1 := by omega
                have e4 : ((j.toNat + 1 : Nat) : Int) = j + 1 := by omega
                have ha := HACC.out
                rw [MK.out, e4] at ha
                rw [e3, HE1.out, ← ha]
                simp only [List.append_assoc]
              · have hI := Lib.itoa_length_le (j + 1) (by omega) (by omega)
                simp only [List.length_append, List.length_cons, List.length_nil]
                omega
          have MK := Lib.hid (show markB a0 = [] by rw [markB, if_neg k2, if_neg k3, if_neg k4])
          have f2 : (a0 == 2) = false := beq_eq_false_iff_ne.mpr k2
          have f3 : (a0 == 3) = false := beq_eq_false_iff_ne.mpr k3
          have f4 : (a0 == 4) = false := beq_eq_false_iff_ne.mpr k4
          clear k2 k3 k4
          go_wp2_with (first | ((with_reducible refine gate_builtin (b := .append) (xs := #[.tmp 23, .tmp 26]) rfl ?_); at_builtin; refine row_appStr (w0 := w) w.heap.size rfl (.tmp 23) (.tmp 26) 9 Tryd.underlying9 rfl u5 acc _ rfl rfl HRW.out HB.out HB.out.size (by omega) ?_))
          intro v1 w1 r1 b1
          rw [HE0.out] at r1
          have r2 : Row w.heap.size (acc ++ pre ++ []) v1 w1 := by rw [List.append_nil]; exact r1
          have b2 := b1
          go_wp2_with fail
          refine (row_appInt w.heap.size _ v1 (j + 1) (by omega) (by omega) _ r2 b2.size (by simp only [List.length_append, List.length_cons, List.length_nil]; omega) (tab_on HT.out b2)).mono ?_
          rintro e w3 ⟨v3, rfl, r3, b3⟩
          have B3 := Lib.hid (below_on b2 (Nat.le_refl _) b3)
          have R3 := Lib.hid r3
          clear r1 b1 r2 b2 r3 b3
          go_wp2_with fail
          rw [← HQ2.out]
          refine (sqlx_zzIndex.calls k1 q2 _ (ixI q2) _ HK1.out).mono ?_
          rintro e w4 ⟨rfl, ⟨n4, rfl⟩⟩
          go_wp2_with fail
          go_roundg g
          case measure => omega
          case rel =>
            refine ⟨q2, j + 1, rfl, rfl, rfl, ⟨by omega, by omega, by omega, _, R3.out, ?_, ?_⟩, Lib.hid (pw_below_drewN B3.out n4)⟩
            · have e3 : (j + 1).toNat = j.toNat + 1 := by omega
              have e4 : ((j.toNat + 1 : Nat) : Int) = j + 1 := by omega
              have ha := HACC.out
              rw [MK.out, e4] at ha
              rw [e3, HE1.out, ← ha]
              simp only [List.append_assoc]
            · have hI := Lib.itoa_length_le (j + 1) (by omega) (by omega)
              simp only [List.length_append, List.length_cons, List.length_nil]
              omega
  · rw [if_neg hs] at h
    cases h
end Go.Proofs.YtnmhoghmhglimaaDoor.H

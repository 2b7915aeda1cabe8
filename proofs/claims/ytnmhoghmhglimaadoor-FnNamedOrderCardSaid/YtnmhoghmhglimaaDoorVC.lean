/-
  MERGED BY A PROGRAM OF THIS SESSION (wip/pack.py): HComp, HCompI.
-/
import Derived.Test.YtnmhoghmhglimaaDoorVB
import Derived.Test.YtnmhoghmhglimaaDoorVQ
import Derived.Test.YtnmhoghmhglimaaDoorVA
import Derived.Handy
import Derived.Lib.Hide
import Derived.Outline
import Derived.Deep.LoopGhost
import Derived.Deep.Cut
import Derived.Deep.CutBlock
import Derived.Deep.CutRange
import Derived.Deep.DeepCutAuto
/-
  A CONTRACT: sqlx's compileNamedQuery (texts of at most 2^20 bytes; the kinds 0 to 4; a world in which strconv's table lies).
-/
namespace Go.Proofs.YtnmhoghmhglimaaDoor.H
open Go.RowKit Go.Proofs.YtnmhoghmhglimaaDoorW.PrintWords Go.Proofs.YtnmhoghmhglimaaDoorW.PrintLast Go.Proofs.YtnmhoghmhglimaaDoorW.PrintMore Go.Proofs.YtnmhoghmhglimaaDoor.QL
set_option linter.unusedVariables false
set_option linter.unusedSimpArgs false

theorem allowed_is (b : UInt8) : sqlx_zzAllowed.f (b.toNat : Int) = some (okB b) := by
  have h : ∀ b : Fin 256, sqlx_zzAllowed.f (b.val : Int) = some (okB (UInt8.ofNat b.val)) := by decide +kernel
  have := h ⟨b.toNat, b.toNat_lt⟩
  simpa using this
set_option maxRecDepth 100000 in
/-- An error of a text. -/
theorem errors_new (t : ByteArray) (w : World) : Calls Tryd.prog 72 #[.string t] w fun e w' => (∃ ty x, e = .returned (.iface ty x)) ∧ Below w.heap.size w w' := by
  go_enter Tryd.func72, Tryd.ntmps72
  go_wp2_with fail
  go_ret
  exact ⟨⟨_, _, rfl⟩, below_alloc (Below.refl _ _) _⟩
theorem itoa_at (n : Int) (h0 : -9223372036854775808 ≤ n) (h1 : n ≤ 9223372036854775807) (w : World) (ht : Tab w) :
    Calls Tryd.prog 82 #[.int .i64 n] w fun e w' => e = .returned (.string ⟨(Lib.itoa n).toArray⟩) ∧ Below w.heap.size w w' := by
  refine (Tryd.strconv_Itoa n h0 h1 w ht).mono ?_
  rintro e w' ⟨rfl, k, os, rfl⟩
  exact ⟨rfl, Lib.below_grow w.heap.size w (Nat.le_refl _) k os⟩
theorem dec_digits : ∀ (u : Nat), ∀ c ∈ Lib.decDigits u, 48 ≤ c.toNat ∧ c.toNat ≤ 57 := by
  intro u
  induction u using Nat.strongRecOn with
  | _ u ih =>
    intro c hc
    rw [Lib.decDigits] at hc
    split at hc
    · rename_i h
      simp at hc
      subst hc
      simp
      omega
    · rename_i h
      rcases List.mem_append.1 hc with hc | hc
      · exact ih (u / 10) (by omega) c hc
      · simp at hc
        subst hc
        have : u % 10 < 10 := Nat.mod_lt _ (by decide)
        simp
        omega
/-- A number's digits, as bytes of a text. -/
theorem itoa_byte (n : Nat) (t : ByteArray) (ht : t = ⟨(Lib.itoa (n : Int)).toArray⟩) (i : Nat) (h : i < t.size) : (t[i]'h).toNat < 128 := by
  subst ht
  have hm : (⟨(Lib.itoa (n : Int)).toArray⟩ : ByteArray)[i]'h ∈ Lib.decDigits n := by
    rw [← Lib.itoa_nonneg n]
    exact List.getElem_mem (l := Lib.itoa (n : Int)) (by simpa [ByteArray.size] using h)
  have := dec_digits n _ hm
  omega
theorem markC_len (kind : Int) (n : Nat) (nm : List UInt8) (hn : n ≤ 2097152) : (markC kind n nm).length ≤ 24 + nm.length := by
  have hl := Lib.itoa_length_le (n : Int) (by omega) (by omega)
  unfold markC
  split
  · simp
    omega
  · split
    · simp
      omega
    · split
      · simp
        omega
      · simp
        omega
theorem beq_byte {b c : UInt8} {k : Int} (hk : (c.toNat : Int) = k) : ((b.toNat : Int) == k) = decide (b = c) := by
  rw [← hk]
  by_cases h : b = c
  · rw [h]
    simp
  · rw [decide_eq_false h, beq_eq_false_iff_ne]
    exact fun e => h (UInt8.toNat_inj.1 (Int.ofNat.inj e))
/-- The loop's state at place i. -/
def CmRel (kind : Int) (s : ByteArray) (R : Option (List (List UInt8) × List UInt8)) (B i : Nat) (inN : Bool) (cv : Int) (vo vn vs : Value) (w' : World) : Prop :=
  ∃ (nm : List UInt8) (nms : List (List UInt8)) (out : List UInt8), runC kind (s.data.toList.drop i) inN nm nms out = R ∧ Three B vo vn vs out nm nms w' ∧ cv = (if kind = 2 ∨ kind = 4 then ((nms.length + 1 : Nat) : Int) else 1) ∧
    nm.length ≤ i ∧ nms.length ≤ i ∧ out.length + (if inN = true then nm.length else 0) ≤ 30 * i ∧ (inN = true → 0 < i ∧ ∀ h : i - 1 < s.size, (s[i - 1]'h = 58 ↔ nm = []))
/-- What a call answers: a text, names and no error; or an error. -/
def CmPost (R : Option (List (List UInt8) × List UInt8)) (B : Nat) (e : Ending) (w' : World) : Prop := match R with
  | some (nms, out) => ∃ v, e = .returned (.tuple #[.string ⟨out.toArray⟩, v, .nilIface]) ∧ SRow B nms v w'
  | none => ∃ v t x, e = .returned (.tuple #[.string ⟨#[]⟩, v, .iface t x])
set_option maxHeartbeats 25600000 in
set_option maxRecDepth 100000 in
theorem comp_walk (kind : Int) (hk : 0 ≤ kind ∧ kind ≤ 4) (s : ByteArray) (hs : s.size ≤ 1048576) (bq c : Nat) (w : World) (ht : Tab w) (hbq : bq < w.heap.size) (hc : ∀ i, (h : i < s.size) → w.cell? ⟨bq, i, none⟩ = some (.int .u8 ((s[i]'h).toNat : Int))) :
    Calls Tryd.prog 66 #[.slice (some ⟨bq, 0, none⟩) s.size c, .int .i64 kind] w fun e w' => Below w.heap.size w w' ∧ CmPost (runC kind s.data.toList false [] [] []) w.heap.size e w' := by
  obtain ⟨R, hR⟩ : ∃ R, R = runC kind s.data.toList false [] [] [] := ⟨_, rfl⟩
  rw [← hR]
  have HR0 := Lib.hid hR.symm
  clear hR
  have HT := Lib.hid (tab_below ht)
  have HC : Hid (∀ (w' : World), Below w.heap.size w w' → ∀ i, (h : i < s.size) → w'.cell? ⟨bq, i, none⟩ = some (.int .u8 ((s[i]'h).toNat : Int))) := Lib.hid fun w' hb i h => (hb.cell (p := ⟨bq, i, none⟩) hbq).trans (hc i h)
  clear ht hc
  go_enter Tryd.func66, Tryd.ntmps66
  go_wp2_with (first | (at_make; refine make_texts w w.heap.size rfl _ _ rfl _ 10 rfl rfl rfl (by omega) (Nat.le_refl _) ?_; intro w1 h1 g1; refine Hid.out ?_))
  refine Lib.hid ?_
  have b1 : Below w.heap.size w w1 := (Below.refl _ w).grown g1 (Nat.le_refl _) (fun k hk => by cases hk)
  go_wp2_with (first | (at_make; refine make_bytes w1 w.heap.size rfl _ _ rfl _ s.size rfl rfl rfl (by omega) b1.size ?_; intro w2 h2 g2; refine Hid.out ?_))
  refine Lib.hid ?_
  have b2 : Below w.heap.size w w2 := b1.grown g2 b1.size (fun k hk => by cases hk)
  go_wp2_with (first | (at_make; refine make_bytes w2 w.heap.size rfl _ _ rfl _ 10 rfl rfl rfl (by omega) b2.size ?_; intro w3 h3 g3; refine Hid.out ?_))
  refine Lib.hid ?_
  have b3 : Below w.heap.size w w3 := b2.grown g3 b2.size (fun k hk => by cases hk)
  have H3 := three_start h1 h2 h3 g2 g3
  have HB3 := Lib.hid b3
  clear h1 h2 h3 g1 g2 g3 b1 b2 b3
  go_wp2_with fail
  have H : CmRel kind s R w.heap.size 0 false 1 _ _ _ w3 := ⟨[], [], [], HR0.out, H3, by split <;> rfl, by simp, by simp, by simp, by simp⟩
  clear H3
  go_loopg [4, 5, 6, 7, 8, 10, 11, 28] s.size (fun g v4 v5 v6 v7 v8 v10 v11 v28 w' => ∃ (i : Nat) (inN : Bool) (cv : Int), v4 = .string ⟨#[]⟩ ∧ v6 = .nilIface ∧ v28 = .int .i64 (i : Int) ∧ v8 = .bool inN ∧ v10 = .int .i64 cv ∧ i + g = s.size ∧ CmRel kind s R w.heap.size i inN cv v7 v11 v5 w' ∧ Hid (Below w.heap.size w w'))
  case atStart => exact ⟨0, false, 1, rfl, rfl, rfl, rfl, rfl, by omega, H, HB3⟩
  case round =>
    obtain ⟨i, inN, cv, rfl, rfl, rfl, rfl, rfl, hig, ⟨nm, nms, out, hrun, hT, hcv, hnl, hnsl, hol, hin⟩, HB⟩ := hrel
    clear H HB3
    have hsl : s.data.toList.length = s.size := Array.length_toList
    have TT := Lib.hid hT
    have HCV := Lib.hid hcv
    clear hT hcv
    cases gk with
    | zero => as_aux_lemma =>
      have hge : decide ((i : Int) < (s.size : Int)) = false := decide_eq_false (by omega)
      rw [List.drop_eq_nil_of_le (by omega), runC] at hrun
      have HRUN := Lib.hid hrun
      have hcv := row_string TT.out.o
      clear hrun
      go_wp2_with fail
      go_ret3
      refine ⟨HB.out, ?_⟩
      rw [← HRUN.out]
      exact ⟨_, rfl, TT.out.s⟩
    | succ g =>
      have hlt : i < s.size := by omega
      have hlt' : decide ((i : Int) < (s.size : Int)) = true := decide_eq_true (by omega)
      have hcell := HC.out wr HB.out i hlt
      obtain ⟨b, hb⟩ : ∃ b, b = s[i]'hlt := ⟨_, rfl⟩
      rw [← hb] at hcell
      have HBI := Lib.hid hb
      have hdrop : s.data.toList.drop i = b :: s.data.toList.drop (i + 1) := by
        rw [List.drop_eq_getElem_cons (by omega), hb]
        rfl
      rw [hdrop] at hrun
      clear hdrop hb
      by_cases h58 : b = 58
      · rw [runC, if_pos h58] at hrun
        have d58 : ((b.toNat : Int) == 58) = true := by rw [h58]; rfl
        cases inN with
        | false => as_aux_lemma =>
          simp only [Bool.false_eq_true, if_false, Nat.add_zero] at hol
          rw [if_neg (by decide)] at hrun
          have HRUN := Lib.hid hrun
          have HB58 := Lib.hid (HBI.out.symm.trans h58)
          clear hrun hin h58
          go_wp2_with fail
          go_roundg g
          case measure => omega
          case rel => exact ⟨i + 1, true, _, rfl, rfl, rfl, rfl, rfl, by omega, ⟨_, _, _, HRUN.out, Three.fresh TT.out HB.out.size, HCV.out, by simp, by omega, by simp at hol ⊢; omega, fun _ => ⟨by omega, fun h => ⟨fun _ => rfl, fun _ => HB58.out⟩⟩⟩, Lib.hid (below_alloc HB.out _)⟩
        | true => as_aux_lemma =>
          simp only [if_true] at hol
          rw [if_pos rfl] at hrun
          obtain ⟨hi0, hprev⟩ := hin rfl
          obtain ⟨i, rfl⟩ : ∃ j, i = j + 1 := ⟨i - 1, by omega⟩
          have hcell0 := HC.out wr HB.out i (by omega)
          have hp0 : (s[i]'(by omega) = 58 ↔ nm = []) := hprev (by omega)
          obtain ⟨b0, hb0⟩ : ∃ b, b = s[i]'(by omega) := ⟨_, rfl⟩
          rw [← hb0] at hcell0
          by_cases hnm : nm = []
          · rw [if_pos hnm] at hrun
            have hp58 := hp0.2 hnm
            rw [← hb0] at hp58
            have d0 : ((b0.toNat : Int) == 58) = true := by rw [hp58]; rfl
            have HRUN := Lib.hid hrun
            clear hrun hin hprev hp0 hnm hp58 h58 hb0
            go_wp2_with (first | ((with_reducible refine gate_builtin (b := .append) (xs := #[.tmp 48, .tmp 49]) rfl ?_); at_builtin; refine three_out (w0 := w) (B := w.heap.size) rfl (.tmp 48) (.tmp 49) rfl [58] 1 rfl _ rfl rfl rfl TT.out HB.out HB.out.size (by (try simp only [List.length_append, List.length_cons, List.length_nil]); omega) ?_))
            rintro v1 w1 T1 B1 -
            have TT := Lib.hid T1
            have HB := Lib.hid B1
            clear T1 B1
            go_wp2_with fail
            go_roundg g
            case measure => omega
            case rel => exact ⟨i + 1 + 1, false, _, rfl, rfl, rfl, rfl, rfl, by omega, ⟨nm, nms, out ++ [58], HRUN.out, TT.out, HCV.out, by omega, by omega, by simp; omega, by simp⟩, HB⟩
          · rw [if_neg hnm] at hrun
            have hp58 : b0 ≠ 58 := by
              rw [hb0]
              exact fun h => hnm (hp0.1 h)
            have d0 : ((b0.toNat : Int) == 58) = false := by
              rw [beq_eq_false_iff_ne]
              exact fun h => hp58 (UInt8.toNat_inj.1 (Int.ofNat.inj h))
            have HRUN := Lib.hid hrun
            clear hrun hin hprev hp0 hnm hp58 h58 hb0
            have hI := Lib.itoa_length_le ((i : Int) + 1) (by omega) (by omega)
            have hcat : 44 + (Lib.itoa ((i : Int) + 1)).length ≤ 9223372036854775807 := by omega
            go_wp2_with fail
            refine (itoa_at ((i : Int) + 1) (by omega) (by omega) _ (tab_at HT.out HB.out)).mono ?_
            rintro e w4 ⟨rfl, b4⟩
            have HB4 := Lib.hid (below_step HB.out b4)
            clear b4
            go_wp2_with fail
            refine (errors_new _ _).mono ?_
            rintro e w5 ⟨⟨ty, x, rfl⟩, b5⟩
            have HB5 := Lib.hid (below_step HB4.out b5)
            clear b5
            go_wp2_with fail
            go_ret3
            refine ⟨HB5.out, ?_⟩
            rw [← HRUN.out]
            exact ⟨_, _, _, rfl⟩
      · rw [runC, if_neg h58] at hrun
        have d58 : ((b.toNat : Int) == 58) = false := (beq_byte (c := 58) (k := 58) rfl).trans (decide_eq_false h58)
        cases inN with
        | false => as_aux_lemma =>
          simp only [Bool.false_eq_true, if_false, Nat.add_zero] at hol
          rw [if_neg (by decide)] at hrun
          have HRUN := Lib.hid hrun
          clear hrun hin h58
          go_wp2_with (first | ((with_reducible refine gate_builtin (b := .append) (xs := #[.tmp 181, .tmp 183]) rfl ?_); at_builtin; refine three_out (w0 := w) (B := w.heap.size) rfl (.tmp 181) (.tmp 183) rfl [b] 1 rfl _ rfl rfl rfl TT.out HB.out HB.out.size (by omega) ?_))
          rintro v1 w1 T1 B1 -
          have TT := Lib.hid T1
          have HB := Lib.hid B1
          clear T1 B1
          go_wp2_with fail
          go_roundg g
          case measure => omega
          case rel => exact ⟨i + 1, false, _, rfl, rfl, rfl, rfl, rfl, by omega, ⟨nm, nms, out ++ [b], HRUN.out, TT.out, HCV.out, by omega, by omega, by simp; omega, by simp⟩, HB⟩
        | true => as_aux_lemma =>
          simp only [if_true] at hol
          rw [if_pos rfl] at hrun
          obtain ⟨hi0, _⟩ := hin rfl
          clear hin
          have p0 : (0 : Int) < (i : Int) := by omega
          have HRUN := Lib.hid hrun
          have H58 := Lib.hid h58
          clear hrun h58
          obtain ⟨A11, c11, rfl⟩ := row_slice TT.out.n
          go_upto_region 19 with (fail)
          go_cut [11, 73] (fun v11 v wc => v11 = .slice A11 nm.length c11 ∧ ∃ x : Bool, v = .bool x ∧ Hid (x = true ↔ (b = 61 ∧ nm = [])) ∧ wr = wc)
          case first => as_aux_lemma =>
            by_cases h61 : b = 61
            · have d61 : ((b.toNat : Int) == 61) = true := by rw [h61]; rfl
              by_cases hn : nm = []
              · have hd : ((nm.length : Int) == 0) = true := by rw [hn]; rfl
                have HP : Hid (b = 61 ∧ nm = []) := Lib.hid ⟨h61, hn⟩
                have HN0 := Lib.hid hn
                clear h61 hn
                go_wp2_with fail
                go_meet
                exact ⟨by rw [HN0.out], true, rfl, Lib.hid ⟨fun _ => HP.out, fun _ => rfl⟩, rfl⟩
              · have hd : ((nm.length : Int) == 0) = false := by
                  rw [beq_eq_false_iff_ne]
                  exact fun h => hn (List.length_eq_zero_iff.1 (Int.ofNat.inj h))
                have HP : Hid (¬(b = 61 ∧ nm = [])) := Lib.hid fun h => hn h.2
                clear h61 hn
                go_wp2_with fail
                go_meet
                exact ⟨rfl, false, rfl, Lib.hid ⟨fun h => (by cases h), fun h => absurd h HP.out⟩, rfl⟩
            · have d61 : ((b.toNat : Int) == 61) = false := (beq_byte (c := 61) (k := 61) rfl).trans (decide_eq_false h61)
              have HP : Hid (¬(b = 61 ∧ nm = [])) := Lib.hid fun h => h61 h.1
              clear h61
              go_wp2_with fail
              go_meet
              exact ⟨rfl, false, rfl, Lib.hid ⟨fun h => (by cases h), fun h => absurd h HP.out⟩, rfl⟩
          case rest =>
            obtain ⟨rfl, x, rfl, hx, rfl⟩ := hcut
            cases x with
            | true => as_aux_lemma =>
              have hx' := hx.out.1 rfl
              have hrun := HRUN.out
              rw [if_pos hx'] at hrun
              have HR1 := Lib.hid hrun
              clear hrun hx' hx HRUN
              go_wp2_with (first | ((with_reducible refine gate_builtin (b := .append) (xs := #[.tmp 74, .tmp 75]) rfl ?_); at_builtin; refine three_out (w0 := w) (B := w.heap.size) rfl (.tmp 74) (.tmp 75) rfl [58, 61] 2 rfl _ rfl rfl rfl TT.out HB.out HB.out.size (by omega) ?_))
              rintro v1 w1 T1 B1 -
              have TT := Lib.hid T1
              have HB := Lib.hid B1
              clear T1 B1
              go_wp2_with fail
              go_roundg g
              case measure => omega
              case rel => exact ⟨i + 1, false, _, rfl, rfl, rfl, rfl, rfl, by omega, ⟨nm, nms, out ++ [58, 61], HR1.out, TT.out, HCV.out, by omega, by omega, by simp; omega, by simp⟩, HB⟩
            | false => as_aux_lemma =>
              have hrun := HRUN.out
              rw [if_neg (fun h => by have := hx.out.2 h; cases this)] at hrun
              have HR1 := Lib.hid hrun
              clear hrun hx HRUN
              have hnl' : nm.length ≤ s.size := by omega
              have HOK := Lib.hid (allowed_is b)
              go_upto_region 22 with (fail)
              go_cut [94] (fun v wc => ∃ (x : Bool) (q : Nat), v = .bool x ∧ Hid (x = true ↔ (nameB b = true ∧ i + 1 ≠ s.size)) ∧ wr.drewN q = wc)
              case first => as_aux_lemma =>
                have hlast : ((i : Int) != (s.size : Int) - 1) = decide (i + 1 ≠ s.size) := by
                  by_cases h : i + 1 = s.size
                  · rw [decide_eq_false (by omega), bne_eq_false_iff_eq]
                    omega
                  · rw [decide_eq_true h, bne_iff_ne]
                    omega
                have HLL := Lib.hid hlast
                clear hlast
                cases hok : okB b with
                | true => as_aux_lemma =>
                  rw [hok] at HOK
                  have HN := Lib.hid (show nameB b = true by unfold nameB; rw [hok]; rfl)
                  clear hok
                  by_cases hl : i + 1 = s.size
                  · have hd : ((i : Int) != (s.size : Int) - 1) = false := HLL.out.trans (decide_eq_false (by omega))
                    have HP : Hid (¬(nameB b = true ∧ i + 1 ≠ s.size)) := Lib.hid fun h => h.2 hl
                    clear hl HLL
                    go_wp2_with fail
                    refine (sqlx_zzAllowed.calls (b.toNat : Int) true _ HOK.out).mono ?_
                    rintro e w1 ⟨rfl, ⟨q1, rfl⟩⟩
                    go_wp2_with fail
                    go_meet
                    exact ⟨false, q1, rfl, Lib.hid ⟨fun h => (by cases h), fun h => absurd h HP.out⟩, rfl⟩
                  · have hd : ((i : Int) != (s.size : Int) - 1) = true := HLL.out.trans (decide_eq_true hl)
                    have HP : Hid (nameB b = true ∧ i + 1 ≠ s.size) := Lib.hid ⟨HN.out, hl⟩
                    clear hl HLL
                    go_wp2_with fail
                    refine (sqlx_zzAllowed.calls (b.toNat : Int) true _ HOK.out).mono ?_
                    rintro e w1 ⟨rfl, ⟨q1, rfl⟩⟩
                    go_wp2_with fail
                    go_meet
                    exact ⟨true, q1, rfl, Lib.hid ⟨fun _ => HP.out, fun _ => rfl⟩, rfl⟩
                | false => as_aux_lemma =>
                  rw [hok] at HOK
                  by_cases h95 : b = 95
                  · have HN := Lib.hid (show nameB b = true by rw [h95]; rfl)
                    have d95 : ((b.toNat : Int) == 95) = true := by rw [h95]; rfl
                    clear hok h95
                    by_cases hl : i + 1 = s.size
                    · have hd : ((i : Int) != (s.size : Int) - 1) = false := HLL.out.trans (decide_eq_false (by omega))
                      have HP : Hid (¬(nameB b = true ∧ i + 1 ≠ s.size)) := Lib.hid fun h => h.2 hl
                      clear hl HLL
                      go_wp2_with fail
                      refine (sqlx_zzAllowed.calls (b.toNat : Int) false _ HOK.out).mono ?_
                      rintro e w1 ⟨rfl, ⟨q1, rfl⟩⟩
                      go_wp2_with fail
                      go_meet
                      exact ⟨false, q1, rfl, Lib.hid ⟨fun h => (by cases h), fun h => absurd h HP.out⟩, rfl⟩
                    · have hd : ((i : Int) != (s.size : Int) - 1) = true := HLL.out.trans (decide_eq_true hl)
                      have HP : Hid (nameB b = true ∧ i + 1 ≠ s.size) := Lib.hid ⟨HN.out, hl⟩
                      clear hl HLL
                      go_wp2_with fail
                      refine (sqlx_zzAllowed.calls (b.toNat : Int) false _ HOK.out).mono ?_
                      rintro e w1 ⟨rfl, ⟨q1, rfl⟩⟩
                      go_wp2_with fail
                      go_meet
                      exact ⟨true, q1, rfl, Lib.hid ⟨fun _ => HP.out, fun _ => rfl⟩, rfl⟩
                  · have d95 : ((b.toNat : Int) == 95) = false := (beq_byte (c := 95) (k := 95) rfl).trans (decide_eq_false h95)
                    by_cases h46 : b = 46
                    · have HN := Lib.hid (show nameB b = true by rw [h46]; rfl)
                      have d46 : ((b.toNat : Int) == 46) = true := by rw [h46]; rfl
                      clear hok h95 h46
                      by_cases hl : i + 1 = s.size
                      · have hd : ((i : Int) != (s.size : Int) - 1) = false := HLL.out.trans (decide_eq_false (by omega))
                        have HP : Hid (¬(nameB b = true ∧ i + 1 ≠ s.size)) := Lib.hid fun h => h.2 hl
                        clear hl HLL
                        go_wp2_with fail
                        refine (sqlx_zzAllowed.calls (b.toNat : Int) false _ HOK.out).mono ?_
                        rintro e w1 ⟨rfl, ⟨q1, rfl⟩⟩
                        go_wp2_with fail
                        go_meet
                        exact ⟨false, q1, rfl, Lib.hid ⟨fun h => (by cases h), fun h => absurd h HP.out⟩, rfl⟩
                      · have hd : ((i : Int) != (s.size : Int) - 1) = true := HLL.out.trans (decide_eq_true hl)
                        have HP : Hid (nameB b = true ∧ i + 1 ≠ s.size) := Lib.hid ⟨HN.out, hl⟩
                        clear hl HLL
                        go_wp2_with fail
                        refine (sqlx_zzAllowed.calls (b.toNat : Int) false _ HOK.out).mono ?_
                        rintro e w1 ⟨rfl, ⟨q1, rfl⟩⟩
                        go_wp2_with fail
                        go_meet
                        exact ⟨true, q1, rfl, Lib.hid ⟨fun _ => HP.out, fun _ => rfl⟩, rfl⟩
                    · have HN := Lib.hid (show ¬ nameB b = true by unfold nameB; rw [hok]; simp [h95, h46])
                      have d46 : ((b.toNat : Int) == 46) = false := (beq_byte (c := 46) (k := 46) rfl).trans (decide_eq_false h46)
                      clear hok h95 h46
                      by_cases hl : i + 1 = s.size
                      · have hd : ((i : Int) != (s.size : Int) - 1) = false := HLL.out.trans (decide_eq_false (by omega))
                        have HP : Hid (¬(nameB b = true ∧ i + 1 ≠ s.size)) := Lib.hid fun h => h.2 hl
                        clear hl HLL
                        go_wp2_with fail
                        refine (sqlx_zzAllowed.calls (b.toNat : Int) false _ HOK.out).mono ?_
                        rintro e w1 ⟨rfl, ⟨q1, rfl⟩⟩
                        go_wp2_with fail
                        go_meet
                        exact ⟨false, q1, rfl, Lib.hid ⟨fun h => (by cases h), fun h => absurd h HP.out⟩, rfl⟩
                      · have hd : ((i : Int) != (s.size : Int) - 1) = true := HLL.out.trans (decide_eq_true hl)
                        have HP : Hid (¬(nameB b = true ∧ i + 1 ≠ s.size)) := Lib.hid fun h => HN.out h.1
                        clear hl HLL
                        go_wp2_with fail
                        refine (sqlx_zzAllowed.calls (b.toNat : Int) false _ HOK.out).mono ?_
                        rintro e w1 ⟨rfl, ⟨q1, rfl⟩⟩
                        go_wp2_with fail
                        go_meet
                        exact ⟨false, q1, rfl, Lib.hid ⟨fun h => (by cases h), fun h => absurd h HP.out⟩, rfl⟩
              case rest =>
                obtain ⟨x, q, rfl, hx, rfl⟩ := hcut
                have TQ := Lib.hid (Three.drewN TT.out q)
                have BQ := Lib.hid (pw_below_drewN HB.out q)
                clear hcell TT HB
                generalize wr.drewN q = wq at TQ BQ ⊢
                have hne : s.data.toList.drop (i + 1) = [] → i + 1 = s.size := fun h => by
                  rw [List.drop_eq_nil_iff] at h
                  omega
                have HNE := Lib.hid hne
                clear hne
                cases x with
                | true => as_aux_lemma =>
                  have hx' := hx.out.1 rfl
                  have hrun := HR1.out
                  rw [if_pos ⟨hx'.1, fun h => hx'.2 (HNE.out h)⟩] at hrun
                  have HR2 := Lib.hid hrun
                  clear hrun hx' hx HR1
                  go_wp2_with (first | ((with_reducible refine gate_builtin (b := .append) (xs := #[.tmp 95, .tmp 97]) rfl ?_); at_builtin; refine three_name (w0 := w) (B := w.heap.size) rfl (.tmp 95) (.tmp 97) rfl b _ rfl rfl rfl TQ.out BQ.out BQ.out.size (by omega) ?_))
                  intro v1 w1 T1 B1
                  have TT := Lib.hid T1
                  have HB := Lib.hid B1
                  clear T1 B1
                  go_wp2_with fail
                  go_roundg g
                  case measure => omega
                  case rel => exact ⟨i + 1, true, _, rfl, rfl, rfl, rfl, rfl, by omega, ⟨nm ++ [b], nms, out, HR2.out, TT.out, HCV.out, by simp; omega, by omega, by simp; omega, fun _ => ⟨by omega, fun h => ⟨fun h2 => absurd (HBI.out.trans h2) H58.out, fun h2 => by simp at h2⟩⟩⟩, HB⟩
                | false => as_aux_lemma =>
                  have hrun := HR1.out
                  rw [if_neg (fun h => by have := hx.out.2 ⟨h.1, fun h2 => h.2 (List.drop_eq_nil_iff.2 (by omega))⟩; cases this)] at hrun
                  have HR2 := Lib.hid hrun
                  clear hrun hx HR1
                  go_upto_region 26 with (fail)
                  go_cut [106] (fun v wc => ∃ (y : Bool) (q : Nat), v = .bool y ∧ Hid (y = true ↔ (i + 1 = s.size ∧ okB b = true)) ∧ wq.drewN q = wc)
                  case first => as_aux_lemma =>
                    by_cases hl : i + 1 = s.size
                    · have hd : ((i : Int) == (s.size : Int) - 1) = true := by
                        rw [beq_iff_eq]
                        omega
                      have HL := Lib.hid hl
                      clear hl
                      cases hok : okB b with
                      | true => as_aux_lemma =>
                        rw [hok] at HOK
                        have HK := Lib.hid hok
                        clear hok
                        go_wp2_with fail
                        refine (sqlx_zzAllowed.calls (b.toNat : Int) true _ HOK.out).mono ?_
                        rintro e w1 ⟨rfl, ⟨q1, rfl⟩⟩
                        go_wp2_with fail
                        go_meet
                        exact ⟨true, q1, rfl, Lib.hid ⟨fun _ => ⟨HL.out, HK.out⟩, fun _ => rfl⟩, rfl⟩
                      | false => as_aux_lemma =>
                        rw [hok] at HOK
                        have HK := Lib.hid hok
                        clear hok
                        go_wp2_with fail
                        refine (sqlx_zzAllowed.calls (b.toNat : Int) false _ HOK.out).mono ?_
                        rintro e w1 ⟨rfl, ⟨q1, rfl⟩⟩
                        go_wp2_with fail
                        go_meet
                        exact ⟨false, q1, rfl, Lib.hid ⟨fun h => (by cases h), fun h => absurd (HK.out.symm.trans h.2) (by decide)⟩, rfl⟩
                    · have hd : ((i : Int) == (s.size : Int) - 1) = false := by
                        rw [beq_eq_false_iff_ne]
                        omega
                      have HL := Lib.hid hl
                      clear hl
                      go_wp2_with fail
                      go_meet
                      exact ⟨false, 0, rfl, Lib.hid ⟨fun h => (by cases h), fun h => absurd h.1 HL.out⟩, rfl⟩
                  case rest =>
                    obtain ⟨y, q2, rfl, hy, rfl⟩ := hcut
                    have TT := Lib.hid (Three.drewN TQ.out q2)
                    have HB := Lib.hid (pw_below_drewN BQ.out q2)
                    clear TQ BQ
                    generalize wq.drewN q2 = wp at TT HB ⊢
                    obtain ⟨nm2, hnm2⟩ : ∃ nm2, nm2 = if y = true then nm ++ [b] else nm := ⟨_, rfl⟩
                    have HN2 := Lib.hid hnm2
                    have hl2 : nm2.length ≤ nm.length + 1 := by
                      rw [hnm2]
                      split <;> simp
                    clear hnm2
                    go_upto_if 106 with (fail)
                    go_cut [11] (fun v11 wc => Hid (Three w.heap.size u7 v11 u5 out nm2 nms wc) ∧ Hid (Below w.heap.size w wc))
                    case first => as_aux_lemma =>
                      cases y with
                      | true => as_aux_lemma =>
                        go_wp2_with (first | ((with_reducible refine gate_builtin (b := .append) (xs := #[.tmp 107, .tmp 109]) rfl ?_); at_builtin; refine three_name (w0 := w) (B := w.heap.size) rfl (.tmp 107) (.tmp 109) rfl b _ rfl rfl rfl TT.out HB.out HB.out.size (by omega) ?_))
                        intro v1 w1 T1 B1
                        have T2 := Lib.hid T1
                        have B2 := Lib.hid B1
                        clear T1 B1
                        go_wp2_with fail
                        go_meet
                        exact ⟨Lib.hid (by rw [HN2.out]; exact T2.out), B2⟩
                      | false => as_aux_lemma =>
                        go_wp2_with fail
                        go_meet
                        exact ⟨Lib.hid (by rw [HN2.out]; exact TT.out), HB⟩
                    case rest =>
                      obtain ⟨T3, B3⟩ := hcut
                      clear TT HB
                      have hcv := row_string T3.out.n
                      have hl3 : nms.length + 1 ≤ 1099511627776 := by omega
                      go_wp2_with (first | ((with_reducible refine gate_builtin (b := .append) (xs := #[.tmp 111, .tmp 114]) rfl ?_); at_builtin; refine three_names (w0 := w) (B := w.heap.size) rfl (.tmp 111) (.tmp 114) rfl _ _ rfl rfl rfl T3.out B3.out B3.out.size hl3 ?_; intro v1 w1 T1 B1; refine Hid.out ?_))
                      refine Lib.hid ?_
                      have TT := Lib.hid T1
                      have HB := Lib.hid B1
                      clear T1 B1 hcv T3 B3
                      have HL2 := Lib.hid hl2
                      have hl4 : out.length + nm.length + 60 ≤ 40000000 := by omega
                      go_upto_block 2 with (fail)
                      go_cut [7, 10] (fun v7 v10 wc => ∃ cv2 : Int, v10 = .int .i64 cv2 ∧ Hid (cv2 = (if kind = 2 ∨ kind = 4 then (((nms ++ [nm2]).length + 1 : Nat) : Int) else 1)) ∧ Hid (Three w.heap.size v7 u11 v1 (out ++ markC kind (nms.length + 1) nm2) nm2 (nms ++ [nm2]) wc) ∧ Hid (Below w.heap.size w wc))
                      case first => as_aux_lemma =>
                        have hcv1 := HCV.out
                        have KK : kind = 0 ∨ kind = 1 ∨ kind = 2 ∨ kind = 3 ∨ kind = 4 := by omega
                        have hl2 := HL2.out
                        rcases KK with rfl | rfl | rfl | rfl | rfl
                        · as_aux_lemma =>
                          simp at hcv1
                          subst hcv1
                          go_wp2_with (first | ((with_reducible refine gate_builtin (b := .append) (xs := #[.tmp 128, .tmp 129]) rfl ?_); at_builtin; refine three_out (w0 := w) (B := w.heap.size) rfl (.tmp 128) (.tmp 129) rfl [63] 1 rfl _ rfl rfl rfl TT.out HB.out HB.out.size (by (try simp only [List.length_append, List.length_cons, List.length_nil]); omega) ?_; rintro v2 w2 T1 B1 -; refine Hid.out ?_))
                          refine Lib.hid ?_
                          clear TT HB
                          have TT := Lib.hid T1
                          have HB := Lib.hid B1
                          clear T1 B1
                          go_wp2_with fail
                          go_meet
                          exact ⟨1, rfl, Lib.hid (by simp), TT, HB⟩
                        · as_aux_lemma =>
                          simp at hcv1
                          subst hcv1
                          go_wp2_with (first | ((with_reducible refine gate_builtin (b := .append) (xs := #[.tmp 128, .tmp 129]) rfl ?_); at_builtin; refine three_out (w0 := w) (B := w.heap.size) rfl (.tmp 128) (.tmp 129) rfl [63] 1 rfl _ rfl rfl rfl TT.out HB.out HB.out.size (by (try simp only [List.length_append, List.length_cons, List.length_nil]); omega) ?_; rintro v2 w2 T1 B1 -; refine Hid.out ?_))
                          refine Lib.hid ?_
                          clear TT HB
                          have TT := Lib.hid T1
                          have HB := Lib.hid B1
                          clear T1 B1
                          go_wp2_with fail
                          go_meet
                          exact ⟨1, rfl, Lib.hid (by simp), TT, HB⟩
                        · as_aux_lemma =>
                          have K2 : (0 : Int) = 0 := rfl
                          simp at hcv1
                          subst hcv1
                          go_wp2_with (first | ((with_reducible refine gate_builtin (b := .append) (xs := #[.tmp 133, .tmp 134]) rfl ?_); at_builtin; refine three_out (w0 := w) (B := w.heap.size) rfl (.tmp 133) (.tmp 134) rfl [36] 1 rfl _ rfl rfl rfl TT.out HB.out HB.out.size (by (try simp only [List.length_append, List.length_cons, List.length_nil]); omega) ?_; rintro v2 w2 T1 B1 -; refine Hid.out ?_))
                          refine Lib.hid ?_
                          clear TT HB
                          have TT := Lib.hid T1
                          have HB := Lib.hid B1
                          clear T1 B1
                          go_wp2_with fail
                          obtain ⟨t, ht⟩ : ∃ t : ByteArray, t = ⟨(Lib.itoa ((nms.length + 1 : Nat) : Int)).toArray⟩ := ⟨_, rfl⟩
                          have htl : t.data.toList = Lib.itoa ((nms.length + 1 : Nat) : Int) := by rw [ht]
                          have hts : t.data.toList.length = t.size := Array.length_toList
                          have hIl := Lib.itoa_length_le ((nms.length + 1 : Nat) : Int) (by omega) (by omega)
                          have hts2 : t.size ≤ 21 := by rw [← hts, htl]; exact hIl
                          have HTA := Lib.hid (itoa_byte (nms.length + 1) t ht)
                          have hI := (itoa_at ((nms.length + 1 : Nat) : Int) (by omega) (by omega) w2 (tab_at HT.out HB.out))
                          rw [← ht] at hI
                          have HTL := Lib.hid htl
                          have HTS := Lib.hid hts
                          clear ht htl hts hIl
                          refine hI.mono ?_
                          rintro e w3 ⟨rfl, b3⟩
                          clear hI
                          have T3 := Lib.hid (TT.out.below b3)
                          have B3 := Lib.hid (below_step HB.out b3)
                          clear TT HB b3
                          go_wp2_with fail
                          have TI := T3.out.alloc (.stringIter t 0)
                          have BI := below_alloc B3.out (.stringIter t 0)
                          have hit0 : (w3.alloc (.stringIter t 0)).heap[w3.heap.size]? = some (.stringIter t 0) := World.iter_heap w3 t 0
                          have hsz3 := B3.out.size
                          go_loopg [7] t.size (fun g2 v7 wr => ∃ pos : Nat, pos + g2 = t.size ∧ wr.heap[w3.heap.size]? = some (.stringIter t pos) ∧ Hid (Three w.heap.size v7 u11 v1 (out ++ [36] ++ t.data.toList.take pos) nm2 (nms ++ [nm2]) wr) ∧ Hid (Below w.heap.size w wr))
                          case atStart => exact ⟨0, by omega, hit0, Lib.hid (by rw [List.take_zero, List.append_nil]; exact TI), Lib.hid BI⟩
                          case round =>
                            obtain ⟨pos, hpg, hit, TP, BP⟩ := hrel
                            clear TI BI hit0 T3 B3
                            cases gk with
                            | zero => as_aux_lemma =>
                              have hnx : ∀ ty, (Instr.next (.pointer (some ⟨w3.heap.size, 0, none⟩)) true ty).run Tryd.prog wr = _ := fun ty => Lib.run_next_end_at wr w3.heap.size t pos ty hit (by omega)
                              have HIT := Lib.hid hit
                              clear hit
                              go_wp2_with fail
                              go_meet
                              refine ⟨_, rfl, Lib.hid ?_, Lib.hid ?_, BP⟩
                              · rw [if_pos (by decide), List.length_append]
                                simp
                              · have hT := TP.out
                                rw [List.take_of_length_le (by rw [HTS.out]; omega), HTL.out] at hT
                                rw [show markC 2 (nms.length + 1) nm2 = [36] ++ Lib.itoa ((nms.length + 1 : Nat) : Int) from rfl, ← List.append_assoc]
                                exact hT
                            | succ g2 => as_aux_lemma =>
                              have hlt2 : pos < t.size := by omega
                              have hasc := HTA.out pos hlt2
                              obtain ⟨d, hd⟩ : ∃ d, d = t[pos]'hlt2 := ⟨_, rfl⟩
                              have hnx : ∀ ty, (Instr.next (.pointer (some ⟨w3.heap.size, 0, none⟩)) true ty).run Tryd.prog wr = .ok (.tuple #[.bool true, .int .i64 pos, .int .i32 d.toNat]) (wr.iterAt w3.heap.size t (pos + 1)) := fun ty => by rw [hd]; exact Lib.run_next_ascii_at wr w3.heap.size t pos ty hit hlt2 hasc
                              have hd2 : d.toNat < 128 := by rw [hd]; exact hasc
                              have HDD := Lib.hid hd
                              have TQ := Lib.hid (TP.out.iterAt hit (pos + 1))
                              have BQ := Lib.hid (Lib.below_iterAt BP.out (k := w3.heap.size) hsz3 t (pos + 1))
                              have HIT2 := Lib.hid (Lib.iterAt_heap wr w3.heap.size t pos (pos + 1) hit)
                              clear hit hd TP BP hasc
                              generalize wr.iterAt w3.heap.size t (pos + 1) = wi at hnx TQ BQ HIT2
                              have hl5 : (out ++ [36] ++ t.data.toList.take pos).length + 1 ≤ 140737488355328 := by
                                have := List.length_take_le pos t.data.toList
                                simp only [List.length_append, List.length_cons, List.length_nil]
                                omega
                              have hwr : IntKind.u8.wrap (d.toNat : Int) = (d.toNat : Int) := by
                                rw [IntKind.wrap_u8]
                                omega
                              go_wp2_with (first | ((with_reducible refine gate_builtin (b := .append) (xs := #[.tmp 142, .tmp 145]) rfl ?_); at_builtin; refine three_out (w0 := w) (B := w.heap.size) rfl (.tmp 142) (.tmp 145) rfl [d] 1 rfl _ rfl rfl rfl TQ.out BQ.out BQ.out.size hl5 ?_; rintro v3 w4 T1 B1 K1; refine Hid.out ?_))
                              refine Lib.hid ?_
                              have HIT4 := (K1 w3.heap.size (by have := (Array.getElem?_eq_some_iff.1 HIT2.out).1; omega) (fun c t z => by rw [HIT2.out]; simp) (Array.getElem?_eq_some_iff.1 HIT2.out).1).trans HIT2.out
                              have H4 := Lib.hid HIT4
                              have T4 := Lib.hid T1
                              have B4 := Lib.hid B1
                              clear T1 B1 K1 HIT4 hnx
                              go_wp2_with fail
                              go_roundg g2
                              case measure => omega
                              case rel =>
                                refine ⟨pos + 1, by omega, H4.out, Lib.hid ?_, B4⟩
                                have hT := T4.out
                                rw [List.append_assoc] at hT
                                rw [List.take_add_one, List.getElem?_eq_getElem (by rw [HTS.out]; exact hlt2)]
                                have e : t.data.toList[pos]'(by rw [HTS.out]; exact hlt2) = d := by rw [HDD.out, Array.getElem_toList]; rfl
                                rw [e]
                                exact hT
                        · as_aux_lemma =>
                          simp at hcv1
                          subst hcv1
                          go_wp2_with (first | ((with_reducible refine gate_builtin (b := .append) (xs := #[.tmp 119, .tmp 120]) rfl ?_); at_builtin; refine three_out (w0 := w) (B := w.heap.size) rfl (.tmp 119) (.tmp 120) rfl [58] 1 rfl _ rfl rfl rfl TT.out HB.out HB.out.size (by (try simp only [List.length_append, List.length_cons, List.length_nil]); omega) ?_; rintro v2 w2 T1 B1 -; refine Hid.out ?_))
                          refine Lib.hid ?_
                          clear TT HB
                          have TT := Lib.hid T1
                          have HB := Lib.hid B1
                          clear T1 B1
                          have hl6 : (out ++ [58]).length + nm2.length ≤ 140737488355328 := by
                            simp only [List.length_append, List.length_cons, List.length_nil]
                            omega
                          go_wp2_with (first | ((with_reducible refine gate_builtin (b := .append) (xs := #[.tmp 122, .tmp 123]) rfl ?_); at_builtin; refine three_outName (w0 := w) (B := w.heap.size) rfl (.tmp 122) (.tmp 123) rfl rfl rfl TT.out HB.out HB.out.size hl6 ?_; rintro v3 w3 T1 B1; refine Hid.out ?_))
                          refine Lib.hid ?_
                          have T4 := Lib.hid T1
                          have B4 := Lib.hid B1
                          clear T1 B1
                          go_wp2_with fail
                          go_meet
                          refine ⟨1, rfl, Lib.hid (by simp), Lib.hid ?_, B4⟩
                          have hT := T4.out
                          rw [List.append_assoc] at hT
                          exact hT
                        · as_aux_lemma =>
                          have K2 : (0 : Int) = 0 := rfl
                          simp at hcv1
                          subst hcv1
                          go_wp2_with (first | ((with_reducible refine gate_builtin (b := .append) (xs := #[.tmp 151, .tmp 152]) rfl ?_); at_builtin; refine three_out (w0 := w) (B := w.heap.size) rfl (.tmp 151) (.tmp 152) rfl [64, 112] 2 rfl _ rfl rfl rfl TT.out HB.out HB.out.size (by (try simp only [List.length_append, List.length_cons, List.length_nil]); omega) ?_; rintro v2 w2 T1 B1 -; refine Hid.out ?_))
                          refine Lib.hid ?_
                          clear TT HB
                          have TT := Lib.hid T1
                          have HB := Lib.hid B1
                          clear T1 B1
                          go_wp2_with fail
                          obtain ⟨t, ht⟩ : ∃ t : ByteArray, t = ⟨(Lib.itoa ((nms.length + 1 : Nat) : Int)).toArray⟩ := ⟨_, rfl⟩
                          have htl : t.data.toList = Lib.itoa ((nms.length + 1 : Nat) : Int) := by rw [ht]
                          have hts : t.data.toList.length = t.size := Array.length_toList
                          have hIl := Lib.itoa_length_le ((nms.length + 1 : Nat) : Int) (by omega) (by omega)
                          have hts2 : t.size ≤ 21 := by rw [← hts, htl]; exact hIl
                          have HTA := Lib.hid (itoa_byte (nms.length + 1) t ht)
                          have hI := (itoa_at ((nms.length + 1 : Nat) : Int) (by omega) (by omega) w2 (tab_at HT.out HB.out))
                          rw [← ht] at hI
                          have HTL := Lib.hid htl
                          have HTS := Lib.hid hts
                          clear ht htl hts hIl
                          refine hI.mono ?_
                          rintro e w3 ⟨rfl, b3⟩
                          clear hI
                          have T3 := Lib.hid (TT.out.below b3)
                          have B3 := Lib.hid (below_step HB.out b3)
                          clear TT HB b3
                          go_wp2_with fail
                          have TI := T3.out.alloc (.stringIter t 0)
                          have BI := below_alloc B3.out (.stringIter t 0)
                          have hit0 : (w3.alloc (.stringIter t 0)).heap[w3.heap.size]? = some (.stringIter t 0) := World.iter_heap w3 t 0
                          have hsz3 := B3.out.size
                          go_loopg [7] t.size (fun g2 v7 wr => ∃ pos : Nat, pos + g2 = t.size ∧ wr.heap[w3.heap.size]? = some (.stringIter t pos) ∧ Hid (Three w.heap.size v7 u11 v1 (out ++ [64, 112] ++ t.data.toList.take pos) nm2 (nms ++ [nm2]) wr) ∧ Hid (Below w.heap.size w wr))
                          case atStart => exact ⟨0, by omega, hit0, Lib.hid (by rw [List.take_zero, List.append_nil]; exact TI), Lib.hid BI⟩
                          case round =>
                            obtain ⟨pos, hpg, hit, TP, BP⟩ := hrel
                            clear TI BI hit0 T3 B3
                            cases gk with
                            | zero => as_aux_lemma =>
                              have hnx : ∀ ty, (Instr.next (.pointer (some ⟨w3.heap.size, 0, none⟩)) true ty).run Tryd.prog wr = _ := fun ty => Lib.run_next_end_at wr w3.heap.size t pos ty hit (by omega)
                              have HIT := Lib.hid hit
                              clear hit
                              go_wp2_with fail
                              go_meet
                              refine ⟨_, rfl, Lib.hid ?_, Lib.hid ?_, BP⟩
                              · rw [if_pos (by decide), List.length_append]
                                simp
                              · have hT := TP.out
                                rw [List.take_of_length_le (by rw [HTS.out]; omega), HTL.out] at hT
                                rw [show markC 4 (nms.length + 1) nm2 = [64, 112] ++ Lib.itoa ((nms.length + 1 : Nat) : Int) from rfl, ← List.append_assoc]
                                exact hT
                            | succ g2 => as_aux_lemma =>
                              have hlt2 : pos < t.size := by omega
                              have hasc := HTA.out pos hlt2
                              obtain ⟨d, hd⟩ : ∃ d, d = t[pos]'hlt2 := ⟨_, rfl⟩
                              have hnx : ∀ ty, (Instr.next (.pointer (some ⟨w3.heap.size, 0, none⟩)) true ty).run Tryd.prog wr = .ok (.tuple #[.bool true, .int .i64 pos, .int .i32 d.toNat]) (wr.iterAt w3.heap.size t (pos + 1)) := fun ty => by rw [hd]; exact Lib.run_next_ascii_at wr w3.heap.size t pos ty hit hlt2 hasc
                              have hd2 : d.toNat < 128 := by rw [hd]; exact hasc
                              have HDD := Lib.hid hd
                              have TQ := Lib.hid (TP.out.iterAt hit (pos + 1))
                              have BQ := Lib.hid (Lib.below_iterAt BP.out (k := w3.heap.size) hsz3 t (pos + 1))
                              have HIT2 := Lib.hid (Lib.iterAt_heap wr w3.heap.size t pos (pos + 1) hit)
                              clear hit hd TP BP hasc
                              generalize wr.iterAt w3.heap.size t (pos + 1) = wi at hnx TQ BQ HIT2
                              have hl5 : (out ++ [64, 112] ++ t.data.toList.take pos).length + 1 ≤ 140737488355328 := by
                                have := List.length_take_le pos t.data.toList
                                simp only [List.length_append, List.length_cons, List.length_nil]
                                omega
                              have hwr : IntKind.u8.wrap (d.toNat : Int) = (d.toNat : Int) := by
                                rw [IntKind.wrap_u8]
                                omega
                              go_wp2_with (first | ((with_reducible refine gate_builtin (b := .append) (xs := #[.tmp 160, .tmp 163]) rfl ?_); at_builtin; refine three_out (w0 := w) (B := w.heap.size) rfl (.tmp 160) (.tmp 163) rfl [d] 1 rfl _ rfl rfl rfl TQ.out BQ.out BQ.out.size hl5 ?_; rintro v3 w4 T1 B1 K1; refine Hid.out ?_))
                              refine Lib.hid ?_
                              have HIT4 := (K1 w3.heap.size (by have := (Array.getElem?_eq_some_iff.1 HIT2.out).1; omega) (fun c t z => by rw [HIT2.out]; simp) (Array.getElem?_eq_some_iff.1 HIT2.out).1).trans HIT2.out
                              have H4 := Lib.hid HIT4
                              have T4 := Lib.hid T1
                              have B4 := Lib.hid B1
                              clear T1 B1 K1 HIT4 hnx
                              go_wp2_with fail
                              go_roundg g2
                              case measure => omega
                              case rel =>
                                refine ⟨pos + 1, by omega, H4.out, Lib.hid ?_, B4⟩
                                have hT := T4.out
                                rw [List.append_assoc] at hT
                                rw [List.take_add_one, List.getElem?_eq_getElem (by rw [HTS.out]; exact hlt2)]
                                have e : t.data.toList[pos]'(by rw [HTS.out]; exact hlt2) = d := by rw [HDD.out, Array.getElem_toList]; rfl
                                rw [e]
                                exact hT
                      case rest =>
                        obtain ⟨cv2, rfl, hcv2, T5, B5⟩ := hcut
                        clear TT HB
                        have HML := Lib.hid (markC_len kind (nms.length + 1) nm2 (by omega))
                        have hl7 : (out ++ markC kind (nms.length + 1) nm2).length + 1 ≤ 140737488355328 := by
                          have hM := HML.out
                          have := HL2.out
                          simp only [List.length_append]
                          omega
                        by_cases hl : i + 1 = s.size
                        · have hd : ((i : Int) != (s.size : Int) - 1) = false := by
                            rw [bne_eq_false_iff_eq]
                            omega
                          have hdn : s.data.toList.drop (i + 1) = [] := List.drop_eq_nil_iff.2 (by omega)
                          cases hok : okB b with
                          | true => as_aux_lemma =>
                            have hy' := hy.out.2 ⟨hl, hok⟩
                            subst hy'
                            have hrun := HR2.out
                            rw [if_pos ⟨hdn, hok⟩, show nm ++ [b] = nm2 from HN2.out.symm] at hrun
                            have HRUN := Lib.hid hrun
                            rw [hok] at HOK
                            clear hrun hok hdn hy hl HR2 HN2
                            go_wp2_with fail
                            refine (sqlx_zzAllowed.calls (b.toNat : Int) true _ HOK.out).mono ?_
                            rintro e w1 ⟨rfl, ⟨q1, rfl⟩⟩
                            have T6 := Lib.hid (Three.drewN T5.out q1)
                            have B6 := Lib.hid (pw_below_drewN B5.out q1)
                            clear T5 B5
                            go_wp2_with fail
                            go_roundg g
                            case measure => omega
                            case rel =>
                              have hM := HML.out
                              exact ⟨i + 1, false, cv2, rfl, rfl, rfl, rfl, rfl, by omega, ⟨nm2, nms ++ [nm2], out ++ markC kind (nms.length + 1) nm2, HRUN.out, T6.out, hcv2.out, by have := HL2.out; omega, by simp; omega, by have := HL2.out; simp; omega, by simp⟩, B6⟩
                          | false => as_aux_lemma =>
                            have hyf : y = false := by
                              cases y with
                              | false => rfl
                              | true => exact absurd (hok.symm.trans (hy.out.1 rfl).2) (by decide)
                            subst hyf
                            have hrun := HR2.out
                            rw [if_neg (fun h => absurd (hok.symm.trans h.2) (by decide)), show nm = nm2 from HN2.out.symm] at hrun
                            have HRUN := Lib.hid hrun
                            rw [hok] at HOK
                            clear hrun hok hdn hy hl HR2 HN2
                            go_wp2_with fail
                            refine (sqlx_zzAllowed.calls (b.toNat : Int) false _ HOK.out).mono ?_
                            rintro e w1 ⟨rfl, ⟨q1, rfl⟩⟩
                            have T6 := Lib.hid (Three.drewN T5.out q1)
                            have B6 := Lib.hid (pw_below_drewN B5.out q1)
                            clear T5 B5
                            have T5 := T6
                            have B5 := B6
                            clear T6 B6
                            go_wp2_with (first | ((with_reducible refine gate_builtin (b := .append) (xs := #[.tmp 177, .tmp 179]) rfl ?_); at_builtin; refine three_out (w0 := w) (B := w.heap.size) rfl (.tmp 177) (.tmp 179) rfl [b] 1 rfl _ rfl rfl rfl T5.out B5.out B5.out.size hl7 ?_; rintro v2 w2 T1 B1 -; refine Hid.out ?_))
                            refine Lib.hid ?_
                            have T6 := Lib.hid T1
                            have B6 := Lib.hid B1
                            clear T1 B1
                            go_wp2_with fail
                            go_roundg g
                            case measure => omega
                            case rel =>
                              have hM := HML.out
                              exact ⟨i + 1, false, cv2, rfl, rfl, rfl, rfl, rfl, by omega, ⟨nm2, nms ++ [nm2], out ++ markC kind (nms.length + 1) nm2 ++ [b], HRUN.out, T6.out, hcv2.out, by have := HL2.out; omega, by simp; omega, by have := HL2.out; simp; omega, by simp⟩, B6⟩
                        · have hd : ((i : Int) != (s.size : Int) - 1) = true := by
                            rw [bne_iff_ne]
                            omega
                          have hyf : y = false := by
                            cases y with
                            | false => rfl
                            | true => exact absurd (hy.out.1 rfl).1 hl
                          subst hyf
                          have hrun := HR2.out
                          rw [if_neg (fun h => by have := List.drop_eq_nil_iff.1 h.1; omega), show nm = nm2 from HN2.out.symm] at hrun
                          have HRUN := Lib.hid hrun
                          clear hrun hy hl HR2 HN2
                          go_wp2_with (first | ((with_reducible refine gate_builtin (b := .append) (xs := #[.tmp 170, .tmp 172]) rfl ?_); at_builtin; refine three_out (w0 := w) (B := w.heap.size) rfl (.tmp 170) (.tmp 172) rfl [b] 1 rfl _ rfl rfl rfl T5.out B5.out B5.out.size hl7 ?_; rintro v2 w2 T1 B1 -; refine Hid.out ?_))
                          refine Lib.hid ?_
                          have T6 := Lib.hid T1
                          have B6 := Lib.hid B1
                          clear T1 B1
                          go_wp2_with fail
                          go_roundg g
                          case measure => omega
                          case rel =>
                            have hM := HML.out
                            exact ⟨i + 1, false, cv2, rfl, rfl, rfl, rfl, rfl, by omega, ⟨nm2, nms ++ [nm2], out ++ markC kind (nms.length + 1) nm2 ++ [b], HRUN.out, T6.out, hcv2.out, by have := HL2.out; omega, by simp; omega, by have := HL2.out; simp; omega, by simp⟩, B6⟩
end Go.Proofs.YtnmhoghmhglimaaDoor.H
/-
  A CONTRACT: impl.Compiled: what compileNamedQuery answers; not ok if it is refused (texts of at most 2^20 bytes; the kinds 0 to 4; a world in which strconv's table lies).
-/
namespace Go.Proofs.YtnmhoghmhglimaaDoor.H
open Go.RowKit Go.Proofs.YtnmhoghmhglimaaDoorW.PrintWords Go.Proofs.YtnmhoghmhglimaaDoorW.PrintLast Go.Proofs.YtnmhoghmhglimaaDoorW.PrintMore
set_option linter.unusedVariables false
set_option linter.unusedSimpArgs false

def textsL (l : List (List UInt8)) : List ByteArray := l.map fun x => ⟨x.toArray⟩
def impl_Compiled.f (a0 : Int) (a1 : ByteArray) : Option (ByteArray × List ByteArray × Bool) := if a1.size ≤ 1048576 ∧ 0 ≤ a0 ∧ a0 ≤ 4 then some (match runC a0 a1.data.toList false [] [] [] with
  | some (nms, out) => (⟨out.toArray⟩, textsL nms, true)
  | none => (⟨#[]⟩, [], false)) else none
theorem texts_R {B : Nat} {l : List (List UInt8)} {v : Value} {w : World} (h : SRow B l v w) : Kd.R Kd.string 9 w B (fun _ => True) v (textsL l) := by
  refine Kd.R_of_own ?_ (fun _ _ => trivial)
  have e : encs Value.string (textsL l) = txCells l := by simp [encs, textsL, txCells]
  rw [e, show (textsL l).length = l.length by simp [textsL]]
  exact h
theorem byte_cell (s : ByteArray) (c : Nat) (w : World) (fr : Nat × Nat) (i : Nat) (h : i < s.size) : (w.alloc (.cells (bytesRow s c) 5 fr)).cell? ⟨w.heap.size, i, none⟩ = some (.int .u8 ((s[i]'h).toNat : Int)) := by
  have h' : i < s.data.size := h
  have e : (bytesRow s c)[i]? = some (.int .u8 ((s[i]'h).toNat : Int)) := bytesRow_at s c i h'
  have hb : (w.alloc (.cells (bytesRow s c) 5 fr)).heap[w.heap.size]? = some (.cells (bytesRow s c) 5 fr) := heap_alloc_new w _
  simp only [World.cell?, hb]
  simpa using e
end Go.Proofs.YtnmhoghmhglimaaDoor.H

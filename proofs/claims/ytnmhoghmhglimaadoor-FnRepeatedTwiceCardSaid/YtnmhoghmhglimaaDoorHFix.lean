/-
  A CONTRACT: sqlx's fixBound writes the bracket behind VALUES so many times, with commas between (texts of at most 2^20 bytes, at most 2^20 times), by the shelf's contracts of bytes.Buffer.
-/
import Derived.Test.YtnmhoghmhglimaaDoorHValues
import Derived.Test.YtnmhoghmhglimaaDoorHFind
import Derived.Test.YtnmhoghmhglimaaDoorHBuf
namespace Go.Proofs.YtnmhoghmhglimaaDoor.H
open Go.RowKit Go.Proofs.YtnmhoghmhglimaaDoorW.PrintWords Go.Proofs.YtnmhoghmhglimaaDoorW.PrintLast Go.Proofs.YtnmhoghmhglimaaDoorW.PrintMore Go.Proofs.YtnmhoghmhglimaaDoor.QL
set_option linter.unusedVariables false
set_option linter.unusedSimpArgs false

/-- A comma and a part, so many times. -/
def cyc (p : List UInt8) : Nat → List UInt8
  | 0 => []
  | n + 1 => cyc p n ++ (44 :: p)
theorem cyc_len (p : List UInt8) : ∀ n, (cyc p n).length = n * (p.length + 1)
  | 0 => by simp [cyc]
  | n + 1 => by rw [cyc, List.length_append, cyc_len p n, List.length_cons, Nat.succ_mul]
/-- The text whose bracket from o up to c stands k times more. -/
def fixL (s : ByteArray) (o c k : Nat) : ByteArray := ⟨(s.data.toList.take c ++ cyc ((s.data.toList.take c).drop o) k ++ s.data.toList.drop c).toArray⟩
def tailOf (s : ByteArray) (o : Nat) : ByteArray := s.extract o s.size
/-- Where the bracket at o closes, counted from o. -/
def idxOf (s : ByteArray) (o : Nat) : Int := findC (tailOf s o) (tailOf s o).size 0 0
def fixF (s : ByteArray) (n : Int) : ByteArray := match valN s s.size 0 with
  | [_, y] => if idxOf s (y - 1).toNat = 0 then s else fixL s (y - 1).toNat ((y - 1).toNat + (idxOf s (y - 1).toNat).toNat + 1) (n - 1).toNat
  | _ => s
def sqlx_fixBound.f (a0 : ByteArray) (a1 : Int) : Option ByteArray := if a0.size ≤ 1048576 ∧ 0 ≤ a1 ∧ a1 ≤ 1048576 then some (fixF a0 a1) else none

theorem valN_two (s : ByteArray) : ∀ f i, valN s f i = [] ∨ ∃ (a y : Nat), valN s f i = [(a : Int), (y : Int) + 1] ∧ y < s.size ∧ bt s (y : Int) = 40
  | 0, i => Or.inl rfl
  | f + 1, i => by
    have ih := valN_two s f (i + 1)
    rw [valN]
    split
    · split
      · exact ih
      · rename_i p _
        split
        · rename_i h
          exact Or.inr ⟨i, spc s p, rfl, by omega, h.2⟩
        · exact ih
    · exact ih
theorem findC_in (s : ByteArray) : ∀ f i c, 0 ≤ findC s f i c ∧ (findC s f i c = 0 ∨ findC s f i c < s.size)
  | 0, i, c => by simp [findC]
  | f + 1, i, c => by
    rw [findC]
    split
    · split
      · exact findC_in s f _ _
      · split
        · split
          · omega
          · exact findC_in s f _ _
        · exact findC_in s f _ _
    · simp
theorem tail_size (s : ByteArray) (o : Nat) (h : o ≤ s.size) : (tailOf s o).size = s.size - o := by simp [tailOf]
theorem extract_cells (s : ByteArray) (a b : Nat) : (s.extract a b).data.toList = (s.data.toList.take b).drop a := by
  simp [ByteArray.data_extract, Array.toList_extract, List.extract_eq_take_drop, List.drop_take]

/-- The loop's state: g rounds left of n, place x: so many parts behind the first text. -/
def FxRel (s : ByteArray) (y c B n : Nat) (g : Nat) (x : Int) (w' : World) : Prop := 0 ≤ x ∧ x + g = n ∧ B ≤ w'.heap.size ∧ Buf B B ((s.extract 0 c).data.toList ++ cyc (s.extract y c).data.toList x.toNat) w'

theorem ret_string {a b : ByteArray} (h : a = b) : Ending.returned (.string a) = .returned (.string b) := by rw [h]
theorem fx_limit (s : ByteArray) (y c k : Nat) (hs : s.size ≤ 1048576) (hk : k ≤ 1048576) (hyc : y ≤ c) (hc : c ≤ s.size) (h1 : (s.extract y c).size = c - y) (h0 : (s.extract 0 c).size = c) :
    ((s.extract 0 c).data.toList ++ cyc (s.extract y c).data.toList k).length + 2097152 ≤ 140737488355328 := by
  have a0 : (s.extract 0 c).data.toList.length = c := by rw [Array.length_toList]; exact h0
  have a1 : (s.extract y c).data.toList.length = c - y := by rw [Array.length_toList]; exact h1
  rw [List.length_append, cyc_len, a0, a1]
  have := Nat.mul_le_mul hk (show c - y + 1 ≤ 1048577 by omega)
  omega
set_option maxHeartbeats 3200000 in
set_option maxRecDepth 100000 in
theorem sqlx_fixBound.calls (a0 : ByteArray) (a1 : Int) (r : ByteArray) (w : World) (h : sqlx_fixBound.f a0 a1 = some r) :
    Calls Tryd.prog 62 #[.string a0, .int .i64 a1] w fun e w' => e = .returned (.string r) ∧ Below w.heap.size w w' := by
  unfold sqlx_fixBound.f at h
  by_cases hs : a0.size ≤ 1048576 ∧ 0 ≤ a1 ∧ a1 ≤ 1048576
  · rw [if_pos hs] at h
    have HR := Lib.hid (Option.some.inj h)
    clear h
    obtain ⟨hs, hn0, hn1⟩ := hs
    have HB := Lib.hid (Below.refl w.heap.size w)
    have hv : sqlx_zzValues.f a0 = some (valN a0 a0.size 0) := by rw [sqlx_zzValues.f, if_pos hs]
    unfold fixF at HR
    rcases valN_two a0 a0.size 0 with h0 | ⟨a, y, h0, hy, _⟩
    · rw [h0] at hv HR
      have HV := Lib.hid hv
      clear hv h0
      go_enter Tryd.func62, Tryd.ntmps62
      go_wp2_with fail
      refine (sqlx_zzValues.calls a0 [] _ HV.out).mono ?_
      rintro e w1 ⟨v0, rfl, ho, hb⟩
      obtain ⟨A1, c1, e1⟩ := Kd.R_slice ho
      subst e1
      have HB1 := Lib.hid hb
      clear hb ho
      go_wp2_with fail
      go_ret
      exact ⟨by rw [← HR.out]; rfl, HB1.out⟩
    · rw [h0] at hv HR
      have HV := Lib.hid hv
      clear hv h0
      have hyy : (y : Int) + 1 - 1 = (y : Int) := by omega
      simp only [hyy, Int.toNat_natCast] at HR
      clear hyy
      obtain ⟨hi0, hi1⟩ := findC_in (tailOf a0 y) (tailOf a0 y).size 0 0
      have hts := tail_size a0 y (by omega)
      have hcf : sqlx_findMatchingClosingBracketIndex.f (tailOf a0 y) = some (idxOf a0 y) := by rw [sqlx_findMatchingClosingBracketIndex.f, if_pos (by omega)]; rfl
      have HC := Lib.hid hcf
      clear hcf
      rw [show findC (tailOf a0 y) (tailOf a0 y).size 0 0 = idxOf a0 y from rfl] at hi0 hi1
      have hT : a0.extract y a0.size = tailOf a0 y := rfl
      obtain ⟨yI, hyI⟩ : ∃ yI : Int, yI = (y : Int) := ⟨_, rfl⟩
      generalize idxOf a0 y = ix at HR hi0 hi1 HC
      by_cases hz : ix = 0
      · rw [if_pos hz] at HR
        have dz : (ix == 0) = true := beq_iff_eq.mpr hz
        clear hz
        go_enter Tryd.func62, Tryd.ntmps62
        go_wp2_with fail
        refine (sqlx_zzValues.calls a0 _ _ HV.out).mono ?_
        rintro e w1 ⟨v0, rfl, ho, hb⟩
        obtain ⟨A1, c1, e1⟩ := Kd.R_slice ho
        subst e1
        obtain ⟨ad1, e1, hx1⟩ := Kd.at_int (Kd.R_reads' ho).2.2 1 (by omega) (by simp)
        subst e1
        simp only [show (1 : Int).toNat = 1 from rfl, Nat.reduceMul, Nat.reduceEqDiff, Go.Addr.add, ↓reduceIte] at hx1
        have hx1' : w1.cell? ⟨ad1.block, ad1.off + 1, none⟩ = some (.int .i64 ((y : Int) + 1)) := hx1
        have HB1 := Lib.hid hb
        clear hb ho hx1
        go_wp2_with fail
        refine (sqlx_findMatchingClosingBracketIndex.calls (tailOf a0 y) ix _ HC.out).mono ?_
        rintro e w2 ⟨rfl, hb⟩
        have HB2 := Lib.hid (below_step HB1.out hb)
        clear hb HB1
        go_wp2_with fail
        go_ret
        exact ⟨by rw [← HR.out]; rfl, HB2.out⟩
      · rw [if_neg hz] at HR
        have dz : (ix == 0) = false := beq_eq_false_iff_ne.mpr hz
        obtain ⟨c, hc⟩ : ∃ c : Nat, c = y + ix.toNat + 1 := ⟨_, rfl⟩
        have hcs : c ≤ a0.size := by omega
        rw [← hc] at HR
        have hcI : (y : Int) + ix + 1 = (c : Int) := by omega
        have p1 : (0 : Int) ≤ (y : Int) + ix + 1 := by omega
        have p2 : (y : Int) + ix + 1 ≤ (a0.size : Int) := by omega
        clear hc hz
        go_enter Tryd.func62, Tryd.ntmps62
        go_wp2_with fail
        refine (sqlx_zzValues.calls a0 _ _ HV.out).mono ?_
        rintro e w1 ⟨v0, rfl, ho, hb⟩
        obtain ⟨A1, c1, e1⟩ := Kd.R_slice ho
        subst e1
        obtain ⟨ad1, e1, hx1⟩ := Kd.at_int (Kd.R_reads' ho).2.2 1 (by omega) (by simp)
        subst e1
        simp only [show (1 : Int).toNat = 1 from rfl, Nat.reduceMul, Nat.reduceEqDiff, Go.Addr.add, ↓reduceIte] at hx1
        have hx1' : w1.cell? ⟨ad1.block, ad1.off + 1, none⟩ = some (.int .i64 ((y : Int) + 1)) := hx1
        have HB1 := Lib.hid hb
        clear hb ho hx1
        go_wp2_with fail
        refine (sqlx_findMatchingClosingBracketIndex.calls (tailOf a0 y) ix _ HC.out).mono ?_
        rintro e w2 ⟨rfl, hb⟩
        have HB2 := Lib.hid (below_step HB1.out hb)
        clear hb HB1
        go_wp2_with fail
        refine (buf_write w2.heap.size w2.heap.size [] _ _ (buf_fresh w2) (below_alloc (Below.refl _ _) _).size ?_).mono ?_
        · simp
          omega
        rintro e w3 ⟨rfl, hB0, hb, hk⟩
        have HB3 : Hid (Below w.heap.size w w3) := Lib.hid (below_on (below_alloc HB2.out _) HB2.out.size hb)
        have hL : w2.heap.size ≤ w3.heap.size := by have := hb.size; have := (below_alloc (Below.refl w2.heap.size w2) (.cells #[.slice none 0 0, .int .i64 0, .int .i8 0] 118)).size; omega
        clear hb hk
        have hB0' : Buf w2.heap.size w2.heap.size ((a0.extract 0 c).data.toList ++ cyc (a0.extract y c).data.toList 0) w3 := by
          rw [show cyc (a0.extract y c).data.toList 0 = [] from rfl, List.append_nil]
          exact hB0
        have H : FxRel a0 y c w2.heap.size (a1 - 1).toNat (a1 - 1).toNat 0 w3 := ⟨by omega, by omega, hL, hB0'⟩
        clear hB0 hB0' hL
        have HX := Lib.hid (extract_cells a0 y c)
        have hyc : y ≤ c := by omega
        have hlen : (a0.extract y c).size = c - y := by simp; omega
        have hlen0 : (a0.extract 0 c).size = c := by simp; omega
        have HWB := Lib.hid HB2.out.size
        clear hi0 hi1 hts hT HV HC HB2 p1 p2
        have hwB := HWB.out
        generalize w2.heap.size = B at H hwB ⊢
        go_wp2_with fail
        go_loopg [10] (a1 - 1).toNat (fun g v10 w' => ∃ (x : Int), v10 = .int .i64 x ∧ FxRel a0 y c B (a1 - 1).toNat g x w' ∧ Hid (Below w.heap.size w w'))
        case atStart => exact ⟨0, rfl, H, HB3⟩
        case round =>
          obtain ⟨x, rfl, HF, HB⟩ := hrel
          clear H HB3
          cases gk with
          | zero =>
            obtain ⟨hx0, hx1, hL, hB⟩ := HF
            have hge : decide (x < a1 - 1) = false := decide_eq_false (by omega)
            go_wp2_with fail
            refine (buf_write B B _ _ _ hB hL ?_).mono ?_
            · have := fx_limit a0 y c x.toNat hs (by omega) hyc hcs hlen hlen0
              rw [show (a0.extract c a0.size).size = a0.size - c by simp]
              omega
            rintro e w4 ⟨rfl, hB2, hb, hk⟩
            go_wp2_with fail
            refine (buf_string B B _ _ hB2).mono ?_
            rintro e w5 ⟨rfl, ⟨n1, rfl⟩⟩
            go_wp2_with fail
            go_ret
            refine ⟨?_, pw_below_drewN (below_on HB.out hwB hb) n1⟩
            have e1 : x.toNat = (a1 - 1).toNat := by omega
            have e2 : List.take (a0.size - c) (List.drop c a0.data.toList) = List.drop c a0.data.toList := List.take_of_length_le (by simp)
            rw [← HR.out, ← e1, fixL, List.drop_take, List.append_assoc]
            refine ret_string ?_
            rw [e2]
          | succ g =>
            obtain ⟨hx0, hx1, hL, hB⟩ := HF
            have hlt : x < a1 - 1 := by omega
            have HG := Lib.hid hx1
            clear hx1
            go_wp2_with fail
            refine (buf_write B B _ _ _ hB hL ?_).mono ?_
            · have := fx_limit a0 y c x.toNat hs (by omega) hyc hcs hlen hlen0
              rw [show (⟨#[44]⟩ : ByteArray).size = 1 from rfl]
              omega
            rintro e w4 ⟨rfl, hB2, hb, hk⟩
            go_wp2_with fail
            refine (buf_write B B _ _ _ hB2 (by have := hb.size; omega) ?_).mono ?_
            · have := fx_limit a0 y c x.toNat hs (by omega) hyc hcs hlen hlen0
              rw [List.length_append, show [(44 : UInt8)].length = 1 from rfl, hlen]
              omega
            rintro e w5 ⟨rfl, hB3, hb2, hk2⟩
            go_wp2_with fail
            go_roundg g
            case measure => omega
            case rel => exact ⟨x + 1, rfl, ⟨by omega, by have := HG.out; omega, by have := hb.size; have := hb2.size; omega, by
              have e1 : (x + 1).toNat = x.toNat + 1 := by omega
              rw [e1, cyc]
              simp only [List.append_assoc, List.cons_append, List.nil_append] at hB3 ⊢
              exact hB3⟩, Lib.hid (below_on (below_on HB.out hwB hb) hwB hb2)⟩
  · rw [if_neg hs] at h
    cases h
end Go.Proofs.YtnmhoghmhglimaaDoor.H

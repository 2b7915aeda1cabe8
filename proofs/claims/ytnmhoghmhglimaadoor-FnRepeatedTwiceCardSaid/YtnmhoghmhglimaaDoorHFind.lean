/-
  A CONTRACT: sqlx's findMatchingClosingBracketIndex, which ranges over a string rune by rune, comes to the place that a plain search over its bytes finds (texts of at most 2^20 bytes).
-/
import Derived.Test.YtnmhoghmhglimaaDoorProg
import Derived.Test.YtnmhoghmhglimaaDoorWWords
import Derived.WalkKit
import Derived.Handy
import Derived.Laws.RangeAny
import Derived.Lib.Hide
import Derived.Outline
namespace Go.Proofs.YtnmhoghmhglimaaDoor.H
open Go.RowKit Go.Proofs.YtnmhoghmhglimaaDoorW.PrintWords
set_option linter.unusedVariables false
set_option linter.unusedSimpArgs false

/-- The search, byte by byte: f: rounds left, i: the place, c: brackets that are open. -/
def findC (s : ByteArray) : Nat → Nat → Int → Int
  | 0, _, _ => 0
  | f + 1, i, c => if i < s.size then (if bt s i = 40 then findC s f (i + 1) (c + 1) else if bt s i = 41 then (if c - 1 = 0 then (i : Int) else findC s f (i + 1) (c - 1)) else findC s f (i + 1) c) else 0
def sqlx_findMatchingClosingBracketIndex.f (a0 : ByteArray) : Option (Int) := if a0.size ≤ 1048576 then some (findC a0 a0.size 0 0) else none

theorem bt_nat (s : ByteArray) (i : Nat) (h : i < s.size) : bt s i = ((s[i]'h).toNat : Int) := by simp [bt, h]
theorem get_nat (s : ByteArray) (i : Nat) (h : i < s.size) : (s.get! i).toNat = (s[i]'h).toNat := by
  congr 1
  simp [ByteArray.get!, getElem!_pos, h]
  rfl
/-- Behind the first byte of a rune that is not ASCII stand its other bytes, none of them ASCII. -/
theorem decode_skip (s : ByteArray) (pos : Nat) (h : pos < s.size) (ha : 128 ≤ (s[pos]'h).toNat) :
    ∀ j, 1 ≤ j → j < (Utf8.decode s pos).2 → ∃ h' : pos + j < s.size, 128 ≤ (s[pos + j]'h').toNat := by
  have hn : ¬ (s[pos]'h).toNat < 128 := by omega
  have key : ∀ k, (decide (pos + k < s.size) && (s.get! (pos + k)).toNat / 64 == 2) = true → ∃ h' : pos + k < s.size, 128 ≤ (s[pos + k]'h').toNat := by
    intro k hk
    rw [Bool.and_eq_true, decide_eq_true_eq, beq_iff_eq] at hk
    refine ⟨hk.1, ?_⟩
    have := hk.2
    rw [get_nat s (pos + k) hk.1] at this
    omega
  intro j h1 h2
  simp only [Utf8.decode, get_at s pos h, hn, if_false] at h2
  split at h2
  · rename_i hc
    rw [Bool.and_eq_true] at hc
    split at h2
    · obtain rfl : j = 1 := by simp at h2; omega
      exact key 1 hc.2
    · simp at h2; omega
  · split at h2
    · rename_i hc
      rw [Bool.and_eq_true, Bool.and_eq_true] at hc
      split at h2
      · have : j = 1 ∨ j = 2 := by simp at h2; omega
        rcases this with rfl | rfl
        · exact key 1 hc.1.2
        · exact key 2 hc.2
      · simp at h2; omega
    · split at h2
      · rename_i hc
        rw [Bool.and_eq_true, Bool.and_eq_true, Bool.and_eq_true] at hc
        split at h2
        · have : j = 1 ∨ j = 2 ∨ j = 3 := by simp at h2; omega
          rcases this with rfl | rfl | rfl
          · exact key 1 hc.1.1.2
          · exact key 2 hc.1.2
          · exact key 3 hc.2
        · simp at h2; omega
      · simp at h2; omega
theorem decode_end (s : ByteArray) (pos : Nat) (h : pos < s.size) (ha : 128 ≤ (s[pos]'h).toNat) : pos + (Utf8.decode s pos).2 ≤ s.size := by
  have h1 := (decode_high s pos h ha).2
  rcases Nat.lt_or_ge 1 (Utf8.decode s pos).2 with h2 | h2
  · obtain ⟨h', _⟩ := decode_skip s pos h ha ((Utf8.decode s pos).2 - 1) (by omega) (by omega)
    omega
  · omega
theorem findC_skip (s : ByteArray) (c : Int) : ∀ (m i : Nat), (∀ j, j < m → ∃ h' : i + j < s.size, 128 ≤ (s[i + j]'h').toNat) → findC s (s.size - i) i c = findC s (s.size - (i + m)) (i + m) c
  | 0, i, _ => rfl
  | m + 1, i, h => by
    obtain ⟨h0, hb⟩ := h 0 (by omega)
    have e : s.size - i = (s.size - (i + 1)) + 1 := by omega
    have hbt : bt s i = ((s[i]'h0).toNat : Int) := bt_nat s i h0
    have hb' : 128 ≤ (s[i]'h0).toNat := hb
    have h0' : i < s.size := h0
    rw [e, findC, if_pos h0', if_neg (by rw [hbt]; omega), if_neg (by rw [hbt]; omega)]
    rw [findC_skip s c m (i + 1) (fun j hj => by
      obtain ⟨h1, h2⟩ := h (j + 1) (by omega)
      have e2 : i + (j + 1) = i + 1 + j := by omega
      exact ⟨by omega, by simpa [e2] using h2⟩)]
    rw [show i + 1 + m = i + (m + 1) by omega]

/-- What a round does: the rune at pos, then the rest. -/
theorem findC_round (s : ByteArray) (pos : Nat) (c : Int) (h : pos < s.size) :
    findC s (s.size - pos) pos c = if ((Utf8.decode s pos).1 : Int) = 40 then findC s (s.size - (pos + (Utf8.decode s pos).2)) (pos + (Utf8.decode s pos).2) (c + 1) else
      if ((Utf8.decode s pos).1 : Int) = 41 then (if c - 1 = 0 then (pos : Int) else findC s (s.size - (pos + (Utf8.decode s pos).2)) (pos + (Utf8.decode s pos).2) (c - 1)) else
      findC s (s.size - (pos + (Utf8.decode s pos).2)) (pos + (Utf8.decode s pos).2) c := by
  by_cases ha : (s[pos]'h).toNat < 128
  · rw [decode_ascii s pos h ha]
    have e : s.size - pos = (s.size - (pos + 1)) + 1 := by omega
    rw [e, findC, if_pos h, bt_nat s pos h]
  · have hh := decode_high s pos h (by omega)
    rw [if_neg (by omega), if_neg (by omega)]
    apply findC_skip
    intro j hj
    rcases Nat.eq_zero_or_pos j with rfl | h0
    · exact ⟨h, by simpa using (show 128 ≤ (s[pos]'h).toNat by omega)⟩
    · exact decode_skip s pos h (by omega) j h0 hj
theorem step_le (s : ByteArray) (pos : Nat) (h : pos < s.size) : pos + (Utf8.decode s pos).2 ≤ s.size ∧ 1 ≤ (Utf8.decode s pos).2 := by
  by_cases ha : (s[pos]'h).toNat < 128
  · rw [decode_ascii s pos h ha]
    exact ⟨by simp; omega, by simp⟩
  · exact ⟨decode_end s pos h (by omega), (decode_high s pos h (by omega)).2⟩
theorem ret_int {k : IntKind} {a b : Int} (h : a = b) : Ending.returned (.int k a) = .returned (.int k b) := by rw [h]
theorem below_iter (w : World) (s : ByteArray) (pos : Nat) : Below w.heap.size w (w.iter s pos) := (Below.refl _ _).alloc (Nat.le_refl _) _

set_option maxHeartbeats 1600000 in
set_option maxRecDepth 100000 in
theorem find_walk (a0 : ByteArray) (r : Int) (w : World) (hs : a0.size ≤ 1048576) (h : findC a0 a0.size 0 0 = r) :
    Calls Tryd.prog 78 #[.string a0] w fun e w' => e = .returned (.int .i64 r) ∧ Below w.heap.size w w' := by
  have H := Lib.hid h
  clear h
  go_enter Tryd.func78, Tryd.ntmps78
  go_wp2
  go_loopw [3] (fun n w' => ∃ (pos : Nat) (c : Int), w' = w.iter a0 pos ∧ n = .int .i64 c ∧ pos ≤ a0.size ∧ -(pos : Int) ≤ c ∧ c ≤ pos ∧ Hid (findC a0 (a0.size - pos) pos c = r)) (fun _ w' => a0.size - w'.iterPos w.heap.size)
  case atStart => exact ⟨0, 0, rfl, rfl, Nat.zero_le _, by omega, by omega, H⟩
  case round =>
    obtain ⟨pos, c, rfl, rfl, hp1, hc1, hc2, HF⟩ := hrel
    clear H
    by_cases hp : pos < a0.size
    · have hnx : ∀ ty, (Instr.next (.pointer (some ⟨w.heap.size, 0, none⟩)) true ty).run Tryd.prog (w.iter a0 pos) = _ := fun ty => run_next_any w a0 pos ty hp
      have HR := Lib.hid (HF.out.symm.trans (findC_round a0 pos c hp))
      have hst := step_le a0 pos hp
      clear HF
      generalize hd : Utf8.decode a0 pos = d at HR hst hnx
      obtain ⟨dr, dw⟩ := d
      simp only [] at HR hst hnx
      have hst1 := hst.1
      have hst2 := hst.2
      clear hst hd
      by_cases h40 : (dr : Int) = 40
      · have hr := HR.out
        rw [if_pos h40] at hr
        have HN := Lib.hid hr.symm
        have b40 : ((dr : Int) == 40) = true := beq_iff_eq.2 h40
        have b41 : ((dr : Int) == 41) = false := by rw [beq_eq_false_iff_ne]; omega
        clear hr HR h40
        go_wp2
        go_roundw
        case rel => exact ⟨pos + dw, c + 1, rfl, rfl, hst1, by omega, by omega, HN⟩
        case measure => simp; omega
      · by_cases h41 : (dr : Int) = 41
        · have hr := HR.out
          rw [if_neg h40, if_pos h41] at hr
          have b40 : ((dr : Int) == 40) = false := by rw [beq_eq_false_iff_ne]; exact h40
          have b41 : ((dr : Int) == 41) = true := beq_iff_eq.2 h41
          by_cases hz : c - 1 = 0
          · rw [if_pos hz] at hr
            have HN := Lib.hid hr
            have bz : (c - 1 == 0) = true := beq_iff_eq.2 hz
            clear hr HR h40 h41 hz
            go_wp2
            go_ret
            exact ⟨ret_int HN.out.symm, below_iter _ _ _⟩
          · rw [if_neg hz] at hr
            have HN := Lib.hid hr.symm
            have bz : (c - 1 == 0) = false := by rw [beq_eq_false_iff_ne]; exact hz
            clear hr HR h40 h41 hz
            go_wp2
            go_roundw
            case rel => exact ⟨pos + dw, c - 1, rfl, rfl, hst1, by omega, by omega, HN⟩
            case measure => simp; omega
        · have hr := HR.out
          rw [if_neg h40, if_neg h41] at hr
          have HN := Lib.hid hr.symm
          have b40 : ((dr : Int) == 40) = false := by rw [beq_eq_false_iff_ne]; exact h40
          have b41 : ((dr : Int) == 41) = false := by rw [beq_eq_false_iff_ne]; exact h41
          clear hr HR h40 h41
          go_wp2
          go_roundw
          case rel => exact ⟨pos + dw, c, rfl, rfl, hst1, by omega, by omega, HN⟩
          case measure => simp; omega
    · have hnx : ∀ ty, (Instr.next (.pointer (some ⟨w.heap.size, 0, none⟩)) true ty).run Tryd.prog (w.iter a0 pos) = _ := fun ty => run_next_end w a0 pos ty hp
      have HN : Hid (r = 0) := by
        have := HF.out
        rw [show a0.size - pos = 0 by omega] at this
        exact Lib.hid this.symm
      clear HF
      go_wp2
      go_ret
      exact ⟨ret_int HN.out.symm, below_iter _ _ _⟩

theorem sqlx_findMatchingClosingBracketIndex.calls (a0 : ByteArray) (r : Int) (w : World) (h : sqlx_findMatchingClosingBracketIndex.f a0 = some r) :
    Calls Tryd.prog 78 #[.string a0] w fun e w' => e = .returned (.int .i64 r) ∧ Below w.heap.size w w' := by
  unfold sqlx_findMatchingClosingBracketIndex.f at h
  split at h
  · exact find_walk a0 r w ‹_› (Option.some.inj h)
  · cases h
end Go.Proofs.YtnmhoghmhglimaaDoor.H

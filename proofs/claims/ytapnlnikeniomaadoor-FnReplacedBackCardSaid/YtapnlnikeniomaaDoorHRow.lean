/-
  CONTRACTS: strconv.Itoa of numbers from 0 to 511 under any table: below 100 the digits, from there on the digits, or the last two alone, by the table's third number.
-/
import Derived.Test.YtapnlnikeniomaaDoorShelf
import Derived.Test.YtapnlnikeniomaaDoorWWords
import Derived.Test.YtapnlnikeniomaaDoorWLast
import Derived.Test.YtapnlnikeniomaaDoorWMore
import Derived.Lib.ItoaLen
import Derived.Lib.AppendIntMem
import Derived.OwnWalk
import Derived.Shelf.RegionOpenPlain
import Derived.RegionTactic
import Derived.CellFam
import Derived.BigCall
import Derived.BigGuard
namespace Go.Proofs.YtapnlnikeniomaaDoor.H
open Go.Shelf Go.RowKit Go.Sort Go.Lib Go.Proofs.YtapnlnikeniomaaDoorW.PrintWords
set_option linter.unusedVariables false
set_option linter.unusedSimpArgs false

/-- What the table holds, whatever it is. -/
def TabT : Type := List Int
def tz [Inhabited TabT] : List Int := (default : TabT)
def tt [Inhabited TabT] : Int := tz.getD 2 0
def Tab [Inhabited TabT] (w : World) : Prop := Lib.TabIs Tryd.prog w "internal/strconv.uint64pow10" .u64 tz ∧ tz.length = 20
def TabB [Inhabited TabT] (B : Nat) (w : World) : Prop := Lib.TabBelow Tryd.prog B w "internal/strconv.uint64pow10" .u64 tz ∧ tz.length = 20
theorem tab_below [Inhabited TabT] {w : World} (h : Tab w) : TabB w.heap.size w := ⟨Lib.tabBelow_of_tabIs h.1, h.2⟩
theorem tab_on [Inhabited TabT] {B : Nat} {w w2 : World} (h : TabB B w) (k : Below B w w2) : TabB B w2 := ⟨h.1.on k, h.2⟩
theorem tab_at [Inhabited TabT] {B : Nat} {w w2 : World} (h : TabB B w) (k : Below B w w2) : Tab w2 := ⟨(h.1.on k).here, h.2⟩
theorem w64 (x : Int) (h : -1099511627776 ≤ x ∧ x ≤ 1099511627776) : wrap64 x = x := IntWalk.wrap64_in x (by omega)
/-- How many cells a number takes. -/
def ndF [Inhabited TabT] (u : Nat) : Nat := if tt ≤ (u : Int) then 3 else 2
/-- The number as it is written. -/
def numD [Inhabited TabT] (u : Nat) : List UInt8 := if u < 100 then Lib.decDigits u else if tt ≤ (u : Int) then Lib.decDigits u else [Lib.dg (u % 100) 1, Lib.dg (u % 100) 0]
theorem three (u : Nat) (h1 : 100 ≤ u) (h2 : u ≤ 511) : Lib.nDigits u = 3 := by
  rw [Lib.nDigits, dif_neg (by omega), Lib.nDigits, dif_neg (by omega), Lib.nDigits, dif_pos (by omega)]
theorem numD_len [Inhabited TabT] (u : Nat) (h1 : 100 ≤ u) (h2 : u ≤ 511) : (numD u).length = ndF u := by
  unfold numD ndF
  rw [if_neg (by omega)]
  split
  · rw [Lib.decDigits_length, three u h1 h2]
  · rfl
theorem two_bits (u : Nat) (h1 : 100 ≤ u) (h2 : u ≤ 511) : Lib.l10 (Lib.bitLen u) = 2 := by
  have h : ((List.range 512).all fun u => decide (u < 100) || decide (Lib.l10 (Lib.bitLen u) = 2)) = true := by kernel_rfl
  have h3 := List.all_eq_true.1 h u (List.mem_range.2 (by omega))
  rw [Bool.or_eq_true, decide_eq_true_eq, decide_eq_true_eq] at h3
  omega
set_option maxHeartbeats 2000000 in
set_option maxRecDepth 100000 in
theorem num_digits [Inhabited TabT] (u : Nat) (h1 : 100 ≤ u) (h2 : u ≤ 511) (w : World) (ht : Tab w) :
    Calls Tryd.prog 43 #[.int .u64 u] w fun e w' => e = .returned (.int .i64 (ndF u)) ∧ w' = w := by
  have hcell : w.cell? ⟨5, 2, none⟩ = some (.int .u64 tt) := by
    have := ht.1.cell (g := 5) (by kernel_rfl) 2 (by rw [ht.2]; decide)
    exact this
  have hq := two_bits u h1 h2
  have HQ := Lib.hid hq
  have hto : ((u : Int)).toNat = u := by omega
  have hL : Lib.bitLen u ≤ 64 := Lib.bitLen_le u 64 (Nat.le_refl _) (by omega)
  have HL := Lib.hid hL
  clear hq ht hL
  go_enter Tryd.func43, Tryd.ntmps43
  go_wp2_with fail
  refine (Tryd.bits_Len64 (u : Int) w (by omega) (by omega)).mono ?_
  rintro e w1 ⟨rfl, rfl⟩
  rw [hto]
  go_wp2_with fail
  refine (Tryd.internal_strconv_log10Pow2 (Lib.bitLen u) HL.out w1).mono ?_
  rintro e w2 ⟨rfl, rfl⟩
  rw [HQ.out]
  by_cases hT : tt ≤ (u : Int)
  · have HN : Hid (ndF u = 3) := Lib.hid (by unfold ndF; rw [if_pos hT])
    go_wp2_with fail
    refine (Tryd.internal_strconv_bool2_int _ _).mono ?_
    rintro e w3 ⟨rfl, rfl⟩
    go_wp2_with fail
    go_ret
    exact ⟨by rw [HN.out]; simp [hT], rfl⟩
  · have HN : Hid (ndF u = 2) := Lib.hid (by unfold ndF; rw [if_neg hT])
    go_wp2_with fail
    refine (Tryd.internal_strconv_bool2_int _ _).mono ?_
    rintro e w3 ⟨rfl, rfl⟩
    go_wp2_with fail
    go_ret
    exact ⟨by rw [HN.out]; simp [hT], rfl⟩
set_option maxHeartbeats 6400000 in
set_option maxRecDepth 100000 in
/-- formatBase10 at two cells: the last two digits. -/
theorem fmt_two (blk off cap u : Nat) (d : Array UInt8) (w : World) (hH : Holds (fun (b : UInt8) => Value.int .u8 (b.toNat : Int)) w blk off d) (hd : d.size = 2) (h1 : 100 ≤ u) (h2 : u ≤ 511) :
    Calls Tryd.prog 44 #[.slice (some ⟨blk, off, none⟩) 2 cap, .int .u64 u] w fun e w' =>
      e = .returned (.tuple #[]) ∧ ∃ (n v' : Nat) (dk : Array UInt8), w' = (putRow (fun (b : UInt8) => Value.int .u8 (b.toNat : Int)) w blk off dk).drewN n ∧ FmtInv 2 (u % 100) 0 v' dk := by
  have ts := Tryd.underlying9
  have mixed : Tryd.prog.follows .mixedOrders = true := by kernel_rfl
  go_enter Tryd.func44, Tryd.ntmps44
  go_name_bytes SM hSM
  have eSM : SM = Lib.smalls := by rw [← hSM]; decide +kernel
  subst eSM
  clear hSM
  go_wp2
  go_loopw [1, 4] (fun vu vn wr => vu = .int .u64 u ∧ vn = .int .i64 2 ∧ wr = w) (fun _ vn _ => (RowKit.intOf vn).toNat)
  case atStart => exact ⟨rfl, rfl, rfl⟩
  case round =>
    obtain ⟨rfl, rfl, rfl⟩ := hrel
    have AH := Lib.hid hH
    have hself := (putRow_self _ _ _ _ _ hH).symm
    have ASELF := Lib.hid hself
    obtain ⟨G0, hG0⟩ : ∃ G : Nat → Int, ∀ t, G t = (d[t]!.toNat : Int) := ⟨_, fun _ => rfl⟩
    have hc0 : ∀ t, t < 2 → wr.cell? ⟨blk, off + t, none⟩ = some (.int .u8 (G0 t)) := fun t ht => by rw [hG0]; exact (hH t (by omega)).1
    have hf0 : ∀ t, t < 2 → wr.frozen? ⟨blk, off + t, none⟩ = false := fun t ht => (hH t (by omega)).2
    have HI0 := Lib.hid (FmtInv.start d (u % 100) (by rw [hd]; omega))
    clear hself hH hG0
    go_wp2
    have HI1 := Lib.hid (FmtInv.step2' (k := 0) (show FmtInv d.size (u % 100) (0 + 2) (u % 100) d from by have := HI0.out; rwa [hd] at this ⊢))
    go_name_slot 16 x0 hx0
    have hxe0 : x0 = ((u % 100 * 2 : Nat) : Int) := by omega
    have hXa0 : ∀ w, (Instr.index 9 (.string Lib.smalls) (.int .u32 (x0 + 1))).run Tryd.prog w = .ok (.int .u8 ((sm (u % 100 * 2 + 1)).toNat : Int)) w := idx_smalls 9 ts .u32 _ _ (by omega) (by omega)
    have hXb0 : ∀ w, (Instr.index 9 (.string Lib.smalls) (.int .u32 x0)).run Tryd.prog w = .ok (.int .u8 ((sm (u % 100 * 2)).toNat : Int)) w := idx_smalls 9 ts .u32 _ _ (by omega) (by omega)
    have hlo0 : 0 ≤ x0 := by omega
    have hhi0 : x0 ≤ 198 := by omega
    clear hx0 hxe0
    go_region_o
    go_wp2
    go_end0
    have hst := store2_world wr blk off d (0 + 0) (0 + 1) 0 (sm (u % 100 * 2 + 1)) (sm (u % 100 * 2)) (by omega) (by omega)
    rw [← ASELF.out] at hst
    refine ⟨rfl, 0 + 0 + 1, u % 100 / 100, _, hst, ?_⟩
    have h := HI1.out
    rw [hd, Nat.mod_mod] at h
    exact h
theorem row_any [Inhabited TabT] (u : Nat) (h1 : 100 ≤ u) (h2 : u ≤ 511) {v' : Nat} {dk : Array UInt8} (h : tt ≤ (u : Int) ∧ FmtInv 3 u 0 v' dk ∨ ¬ tt ≤ (u : Int) ∧ FmtInv 2 (u % 100) 0 v' dk) : dk.size = ndF u ∧ ∀ (j : Nat) (hj : j < (numD u).length), (numD u)[j] = dk[j]! := by
  rcases h with ⟨hT, h⟩ | ⟨hT, h⟩
  · have e : numD u = Lib.decDigits u := by unfold numD; rw [if_neg (by omega), if_pos hT]
    refine ⟨by rw [h.size]; unfold ndF; rw [if_pos hT], fun j hj => ?_⟩
    have h' : FmtInv (Lib.nDigits u) u 0 v' dk := by rw [three u h1 h2]; exact h
    simp only [e] at hj ⊢
    exact Lib.row_is_numeral h' j hj
  · have e : numD u = [Lib.dg (u % 100) 1, Lib.dg (u % 100) 0] := by unfold numD; rw [if_neg (by omega), if_neg hT]
    refine ⟨by rw [h.size]; unfold ndF; rw [if_neg hT], fun j hj => ?_⟩
    simp only [e] at hj ⊢
    have hj2 : j < 2 := hj
    rw [h.done j (Nat.zero_le _) hj2]
    have : j = 0 ∨ j = 1 := by omega
    rcases this with rfl | rfl <;> rfl
set_option maxRecDepth 100000 in
theorem fmt_any [Inhabited TabT] (blk off cap u : Nat) (d : Array UInt8) (w : World) (hH : Holds (fun (b : UInt8) => Value.int .u8 (b.toNat : Int)) w blk off d) (hd : d.size = ndF u) (h1 : 100 ≤ u) (h2 : u ≤ 511) :
    Calls Tryd.prog 44 #[.slice (some ⟨blk, off, none⟩) (ndF u) cap, .int .u64 u] w fun e w' =>
      e = .returned (.tuple #[]) ∧ ∃ (n : Nat) (dk : Array UInt8), w' = (putRow (fun (b : UInt8) => Value.int .u8 (b.toNat : Int)) w blk off dk).drewN n ∧ dk.size = ndF u ∧ ∀ (j : Nat) (hj : j < (numD u).length), (numD u)[j] = dk[j]! := by
  by_cases hT : tt ≤ (u : Int)
  · have e3 : ndF u = 3 := by unfold ndF; rw [if_pos hT]
    have hd3 : d.size = 3 := by rw [hd, e3]
    have h := Tryd.internal_strconv_formatBase10 blk off cap u d w hH (by rw [hd3]; omega) (by omega) (by rw [hd3]; decide)
    rw [hd3] at h
    rw [e3]
    refine h.mono ?_
    rintro e w' ⟨he, n, v', dk, hw, hF⟩
    obtain ⟨a, b⟩ := row_any u h1 h2 (.inl ⟨hT, hF⟩)
    exact ⟨he, n, dk, hw, by rw [← e3]; exact a, b⟩
  · have e2 : ndF u = 2 := by unfold ndF; rw [if_neg hT]
    have h := fmt_two blk off cap u d w hH (by rw [hd, e2]) h1 h2
    rw [e2]
    refine h.mono ?_
    rintro e w' ⟨he, n, v', dk, hw, hF⟩
    obtain ⟨a, b⟩ := row_any u h1 h2 (.inr ⟨hT, hF⟩)
    exact ⟨he, n, dk, hw, by rw [← e2]; exact a, b⟩
set_option maxHeartbeats 6400000 in
set_option maxRecDepth 100000 in
theorem format_big [Inhabited TabT] (u : Nat) (h1 : 100 ≤ u) (h2 : u ≤ 511) (w : World) (ht : Tab w) :
    Calls Tryd.prog 39 #[.int .i64 u, .int .i64 10] w fun e w' => e = .returned (.string ⟨(numD u).toArray⟩) ∧ ∃ k os, w' = grow (w.drewN k) os := by
  have ta := Tryd.underlying71
  have hn := numD_len u h1 h2
  have hb3 : ndF u ≤ 3 := by unfold ndF; split <;> omega
  have hb2 : 2 ≤ ndF u := by unfold ndF; split <;> omega
  have hal : Tryd.prog.arrayLen 71 = 24 := by kernel_rfl
  have hsl1 : ∀ W, (Instr.sliceAt 71 (.pointer (some ⟨w.heap.size, 0, none⟩)) (some (.int .i64 1)) (some (.int .i64 (1 + (ndF u : Int)))) none).run Tryd.prog W = .ok (.slice (some ⟨w.heap.size, 1, none⟩) (ndF u) 23) W := fun W => by
    rw [run_sliceAt_array_lh W 71 ⟨w.heap.size, 0, none⟩ (by simp [Program.arrayLen, Program.elem, ta]) .i64 .i64 1 (1 + (ndF u : Int)) (by omega) (by omega) (by rw [hal]; omega)]
    go_simp
    omega
  have hH0 := Lib.holds_zero w 71 (ndF u) (by omega)
  have hfmt := fmt_any w.heap.size 1 23 u (Array.replicate (ndF u) 0) (w.alloc (.cells Lib.zeros24 71)) hH0 (by rw [Array.size_replicate]) h1 h2
  have HH0 := Lib.hid hH0
  have HF := Lib.hid hfmt
  have HT : Hid (Tab (w.alloc (.cells Lib.zeros24 71))) := Lib.hid ⟨Lib.tabIs_alloc ht.1 _, ht.2⟩
  have HN := Lib.hid hn
  clear hH0 hal hfmt ht hn
  go_enter Tryd.func39, Tryd.ntmps39
  go_wp2_with fail
  refine (num_digits u h1 h2 _ HT.out).mono ?_
  rintro e w1 ⟨rfl, rfl⟩
  go_wp2_with fail
  refine HF.out.mono ?_
  rintro e w2 ⟨rfl, k, dk, rfl, hsz, hrow⟩
  have hcv : (convert 45 9 (.slice (some ⟨w.heap.size, 1, none⟩) (ndF u) 23)).run Tryd.prog ((putRow (fun (b : UInt8) => Value.int .u8 (b.toNat : Int)) (w.alloc (.cells Lib.zeros24 71)) w.heap.size 1 dk).drewN k) = .ok (.string ⟨(numD u).toArray⟩) ((putRow (fun (b : UInt8) => Value.int .u8 (b.toNat : Int)) (w.alloc (.cells Lib.zeros24 71)) w.heap.size 1 dk).drewN k) := by
    have h := run_convert_bytes_back (P := Tryd.prog) ((putRow (fun (b : UInt8) => Value.int .u8 (b.toNat : Int)) (w.alloc (.cells Lib.zeros24 71)) w.heap.size 1 dk).drewN k) 45 9 5 ⟨w.heap.size, 1, none⟩ 23 (numD u) Tryd.underlying45 Tryd.underlying5 Tryd.underlying9 (fun j hj => by
      rw [hrow j hj, Lib.add_plain, World.cell?_drewN]
      exact cell?_putRow (fun (b : UInt8) => Value.int .u8 (b.toNat : Int)) _ w.heap.size 1 _ dk HH0.out (by rw [hsz, Array.size_replicate]) j (by rw [hsz]; rw [HN.out] at hj; exact hj))
    rw [HN.out] at h
    exact h
  clear hrow
  have HSZ := Lib.hid hsz
  clear hsz
  go_wp2_with fail
  go_ret
  obtain ⟨os, eo⟩ := Lib.fin_pos w (.cells Lib.zeros24 71) dk k
  exact ⟨rfl, k, os, eo⟩
set_option maxRecDepth 100000 in
theorem itoa_in [Inhabited TabT] (u : Nat) (h2 : u ≤ 511) (w : World) (ht : Tab w) :
    Calls Tryd.prog 33 #[.int .i64 u] w fun e w' => e = .returned (.string ⟨(numD u).toArray⟩) ∧ Below w.heap.size w w' := by
  by_cases h : u < 100
  · refine (Tryd.internal_strconv_Itoa_small u h w).mono ?_
    rintro e w' ⟨rfl, rfl⟩
    exact ⟨by unfold numD; rw [if_pos h], Below.refl _ _⟩
  · have HF := Lib.hid (format_big u (by omega) h2 w ht)
    clear ht
    go_enter Tryd.func33, Tryd.ntmps33
    go_wp2_with fail
    refine HF.out.mono ?_
    rintro e w1 ⟨rfl, k, os, rfl⟩
    go_wp2_with fail
    go_ret
    exact ⟨rfl, Lib.below_grow w.heap.size w (Nat.le_refl _) k os⟩
set_option maxRecDepth 100000 in
theorem itoa_at [Inhabited TabT] (u : Nat) (h2 : u ≤ 511) (w : World) (ht : Tab w) :
    Calls Tryd.prog 27 #[.int .i64 u] w fun e w' => e = .returned (.string ⟨(numD u).toArray⟩) ∧ Below w.heap.size w w' := by
  have HF := Lib.hid (itoa_in u h2 w ht)
  clear ht
  go_enter Tryd.func27, Tryd.ntmps27
  go_wp2_with fail
  refine HF.out.mono ?_
  rintro e w1 ⟨rfl, hb⟩
  go_wp2_with fail
  go_ret
  exact ⟨rfl, hb⟩
end Go.Proofs.YtapnlnikeniomaaDoor.H

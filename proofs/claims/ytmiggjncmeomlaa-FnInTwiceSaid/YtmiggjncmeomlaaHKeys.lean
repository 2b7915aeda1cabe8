/-
  CONTRACTS: sort.Strings of one text; squirrel's getSortedKeys of a map with one name.
-/
import Derived.Test.YtmiggjncmeomlaaHMap
import Derived.Test.YtmiggjncmeomlaaShelf
import Derived.Maps.RangeWalk
import Derived.Sort.KeysCollected
namespace Go.Proofs.Ytmiggjncmeomlaa.H
open Go.RowKit Go.Proofs.YtmiggjncmeomlaaW.PrintWords Go.Proofs.YtmiggjncmeomlaaW.PrintLast Go.Proofs.YtmiggjncmeomlaaW.PrintMore Go.Proofs.Ytmiggjncmeomlaa.QS
open Go.Maps (Keyed)
set_option linter.unusedVariables false
set_option linter.unusedSimpArgs false

set_option maxRecDepth 100000 in
theorem insertion_one (A : Option Addr) (c : Nat) (w : World) :
    Calls Try.prog 50 #[.slice A 1 c, .int .i64 0, .int .i64 1] w fun e w' => e = .returned (.tuple #[]) ∧ Below w.heap.size w w' := by
  go_enter Try.func50, Try.ntmps50
  go_wp2_with fail
  refine wp_loop_rounds 1 ?_
  rw [rounds_succ]
  go_wp2_with fail
  go_end0
  exact ⟨rfl, Below.refl _ _⟩
set_option maxRecDepth 100000 in
set_option maxHeartbeats 1600000 in
theorem pdq_one (A : Option Addr) (c : Nat) (l : Int) (w : World) :
    Calls Try.prog 45 #[.slice A 1 c, .int .i64 0, .int .i64 1, .int .i64 l] w fun e w' => e = .returned (.tuple #[]) ∧ Below w.heap.size w w' := by
  go_enter Try.func45, Try.ntmps45
  go_wp2_with fail
  refine wp_loop_rounds 1 ?_
  rw [rounds_succ]
  go_wp2_with fail
  refine (insertion_one A c w).mono ?_
  rintro e w1 ⟨rfl, hb⟩
  go_wp2_with fail
  (try simp only [Exit.inBlock, Exit.then])
  refine bodyPost_ret (results_none rfl _ _ _) rfl ?_
  exact ⟨rfl, hb⟩
set_option maxRecDepth 100000 in
set_option maxHeartbeats 1600000 in
theorem sort_one (A : Option Addr) (c : Nat) (w : World) :
    Calls Try.prog 37 #[.slice A 1 c] w fun e w' => e = .returned (.tuple #[]) ∧ Below w.heap.size w w' := by
  have hs : Calls Try.prog 41 #[.slice A 1 c] w fun e w' => e = .returned (.tuple #[]) ∧ Below w.heap.size w w' := by
    go_enter Try.func41, Try.ntmps41
    go_wp2_with fail
    refine (Try.bits_Len 1 w (by omega) (by omega)).mono ?_
    rintro e w1 ⟨rfl, rfl⟩
    go_wp2_with fail
    refine (pdq_one A c _ _).mono ?_
    rintro e w2 ⟨rfl, hb⟩
    go_wp2_with fail
    go_end0
    exact ⟨rfl, hb⟩
  go_enter Try.func37, Try.ntmps37
  go_wp2_with fail
  refine hs.mono ?_
  rintro e w1 ⟨rfl, hb⟩
  go_wp2_with fail
  go_end0
  exact ⟨rfl, hb⟩
/-- A row's block is no other object's. -/
theorem own_cells {w : World} {B : Nat} {e : TypeId} {k n : Nat} {v : Value} {xs : List Value} (ho : w.ownsRow B e k v n xs) {j : Nat} {o : Obj} (hb : w.heap[j]? = some o) (hne : ∀ cs t fr, o ≠ .cells cs t fr) : some j ≠ v.ownBlock := by
  rcases ho.2 with ⟨rfl, _⟩ | ⟨g, cap, cur, rfl, _, hg, _⟩
  · simp [Value.ownBlock]
  · intro he
    have : j = g := by simpa [Value.ownBlock] using he
    subst this
    rw [hg] at hb
    injection hb with hb
    exact hne _ _ _ hb.symm
theorem info_str : (Try.prog.info? 9).map (fun i => (i.zero, i.size, i.bytes)) = some (some (.string ⟨#[]⟩), 1, 16) := by kernel_rfl
def isStr (s : ByteArray) (cs : List Value) : Prop := cs = [.string s]
theorem one_size {w : World} {b n : Nat} {D : DataW Value} (ho : w.ownsMap Try.prog 9 rdv b n D) (hn : n ≤ 1) (s : ByteArray) (h : Maps.has D (keyL s) = true) : Maps.size D = 1 := by
  obtain ⟨es, clock, hb, F, hs, hD⟩ := ho
  have h1 : Maps.size D = es.size := by rw [hD]; simp [Maps.size, length_sorted]
  have h2 : Maps.size D ≠ 0 := by
    intro h0
    have : es.toList = [] := List.eq_nil_of_length_eq_zero (by rw [Array.length_toList, ← h1]; exact h0)
    rw [hD, this] at h
    cases h
  omega
set_option maxRecDepth 100000 in
set_option maxHeartbeats 3200000 in
theorem keys_one {ok : Nat → Prop} (w : World) (b : Nat) (s : ByteArray) (v : S24) (hM : MapIs ok w b [⟨s, v⟩]) :
    Calls Try.prog 31 #[.map (some b)] w fun e w' => (∃ A c, e = .returned (.slice A 1 c) ∧ Kd.C Kd.string w' A 1 [s]) ∧ Below w.heap.size w w' := by
  obtain ⟨D, n, ho, hn, hx, hz⟩ := hM.own
  obtain ⟨u, _, hhas, _⟩ := hx ⟨s, v⟩ (by simp)
  have hone := one_size ho (by simpa using hn) s hhas
  have HOWN := Lib.hid ho
  have HZ := Lib.hid hz
  have hbl := ho.lt
  obtain ⟨i0, hi, hz0, hz1, hz2⟩ := info_parts info_str
  clear hx hn hz hM ho
  go_enter Try.func31, Try.ntmps31
  go_wp2_with (first
    | (at_len; refine wpList_len_own _ rfl _ 35 rfl 9 20 Try.underlying35 rdv b n D rfl HOWN.out ?_)
    | (at_make; refine wpList_make_own _ rfl _ _ 30 rfl w.heap.size 9 i0 (.string ⟨#[]⟩) 1 Try.underlying30 hi hz0 hz1 .i64 .i64 1 1 rfl (by rw [hone]; rfl) rfl (by rw [hz2]; omega) (by simp only [maxLen]; omega) (Nat.le_refl _) ?_; intro w1 hrow1 hg1)
    | (at_range; refine wpList_range_own _ rfl _ 35 rfl 9 20 mkeyed Try.underlying35 rdv b n D rfl (HOWN.out.kept hg1 (by simp)) ?_; intro w0 hrg0 hg0 hs0))
  have HROW : Hid (OwnRow isStr 9 1 w1 w.heap.size (.slice (some ⟨w.heap.size, 0, none⟩) 0 1) []) := Lib.hid ⟨[], hrow1, Reps.none _ _⟩
  have HROW0 := Lib.hid (HROW.out.other hg0 (Or.inr (by simp [Value.ownBlock])))
  have HB0 := Lib.hid (((Below.refl w.heap.size w).grown hg1 (Nat.le_refl _) (fun j hj => by cases hj)).grown hg0 hg1.size (fun j hj => by cases hj))
  have HRG0 := Lib.hid hrg0
  have HW1 : Hid (w.heap.size ≤ w1.heap.size) := Lib.hid hg1.size
  clear hrow1 hg1 hrg0 hg0 hs0 HROW
  go_loopw [3] (fun v wr => ∃ (left : Lit → Bool) (cnt : Nat) (ss : List ByteArray), Hid (wr.ranges Try.prog 9 rdv b w1.heap.size n D left cnt) ∧ Hid (OwnRow isStr 9 1 wr w.heap.size v ss) ∧ Hid ((cnt = 1 ∧ ss = [] ∧ left = Maps.has D) ∨ (cnt = 0 ∧ ss = [s])) ∧ Hid (Below w.heap.size w wr))
    (fun _ wr => wr.rangeLeft b w1.heap.size)
  case atStart => exact ⟨_, _, [], HRG0, HROW0, Lib.hid (.inl ⟨hone, rfl, rfl⟩), HB0⟩
  case round =>
    clear HROW0 HB0 HRG0
    obtain ⟨left, cnt, ss, HRG, HROW, HS, HB⟩ := hrel
    go_wp2_with (first
      | (at_next; refine wpList_next_ranges _ rfl _ rfl 9 mkeyed rdv encStr id (fun key kl hk => by obtain ⟨x, hx, _⟩ := Maps.keyOf_str Try.underlying9 hk; exact ⟨x, hx⟩) (fun v y hv => ⟨v, rfl⟩) b w1.heap.size n _ _ _ rfl HRG.out ?_ ?_))
    · intro hc0 hl0
      have hss : ss = [s] := by
        rcases HS.out with ⟨h1, _⟩ | ⟨_, h2⟩
        · omega
        · exact h2
      subst hss
      obtain ⟨A, c, e, hl, hr⟩ := OwnRow.reads HROW.out
      subst e
      have HR : Hid (Kd.C Kd.string wr A 1 [s]) := Lib.hid hr
      clear HS HROW HRG hl0 hr hl
      go_wp2_with fail
      refine (sort_one A c wr).mono ?_
      rintro e w5 ⟨rfl, hb⟩
      go_wp2_with fail
      go_ret
      exact ⟨⟨A, c, rfl, Kd.C_below HR.out hb⟩, HB.out.trans (hb.mono HB.out.size)⟩
    · intro x c kl yd yp w2 cnt2 hkey hlk hv hat hrg2 hlt hg2 hs2 hen
      obtain ⟨x', ex, rfl, _⟩ := Maps.keyOf_str Try.underlying9 hkey
      obtain rfl : x = x' := encStr_inj ex
      obtain ⟨rfl, rfl, rfl⟩ : cnt = 1 ∧ ss = [] ∧ left = Maps.has D := by
        rcases HS.out with h1 | ⟨h1, _⟩
        · exact h1
        · omega
      have hxs : encStr x = .string s := by
        by_cases hq : s = ⟨x.toArray⟩
        · rw [hq]
        · have h1 := HZ.out ⟨x.toArray⟩ (fun y hy => by
            obtain rfl := List.mem_singleton.1 hy
            exact hq)
          have h2 : keyL ⟨x.toArray⟩ = .string x := by unfold keyL; simp
          rw [h2, hlk] at h1
          cases h1
      have hc2 : cnt2 = 0 := by omega
      subst hc2
      rw [hxs] at hen
      have HRG2 := Lib.hid hrg2
      have HG2 := Lib.hid hg2
      have HROW2 := Lib.hid (HROW.out.other HG2.out (Or.inr (fun h => by
        obtain ⟨inner, hown, _⟩ := HROW.out
        obtain ⟨es, clock, since, seen, c0, _, _, _, _, hr, _⟩ := HRG.out
        exact own_cells hown hr (fun _ _ _ h => by cases h) h.symm)))
      have HB2 := Lib.hid (HB.out.grown HG2.out HB.out.size (fun j hj => by cases hj; exact HW1.out))
      have HNB : Hid (some b ≠ u3.ownBlock ∧ some w1.heap.size ≠ u3.ownBlock) := by
        obtain ⟨inner, hown, _⟩ := HROW2.out
        obtain ⟨es, clock, since, seen, c0, h1, _, _, _, h2, _⟩ := HRG2.out
        exact Lib.hid ⟨own_cells hown h1 (fun _ _ _ h => by cases h), own_cells hown h2 (fun _ _ _ h => by cases h)⟩
      clear hs2 hg2 hrg2 hat hv hkey hlk
      go_wp2_with (first | ((with_reducible refine gate_builtin (b := .append) (xs := #[.tmp 14, .tmp 16]) rfl ?_); at_builtin; refine OwnRow.append (R := isStr) (w0 := w) w.heap.size rfl (.tmp 14) (.tmp 16) 30 9 (.string ⟨#[]⟩) 1 16 rfl Try.underlying30 info_str rfl (by decide) (by decide) u3 [] s [_] rfl rfl rfl rfl (fun u hu => by rw [List.mem_singleton.1 hu]; rfl) HROW2.out HB2.out HB2.out.size (by simp) ?_))
      intro v1 w3 hO1 hB1 hg3 _
      have HRG3 := Lib.hid (HRG2.out.kept hg3 HNB.out.1 HNB.out.2)
      have HO3 := Lib.hid hO1
      have HB3 := Lib.hid hB1
      clear hO1 hB1 hg3
      go_wp2_with fail
      go_roundw
      case rel => exact ⟨_, 0, [s], HRG3, HO3, Lib.hid (.inr ⟨rfl, rfl⟩), HB3⟩
      case measure => rw [HRG3.out.left_eq, HRG.out.left_eq]; omega
end Go.Proofs.Ytmiggjncmeomlaa.H

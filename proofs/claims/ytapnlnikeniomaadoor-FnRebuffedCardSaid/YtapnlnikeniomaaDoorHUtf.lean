/-
  CONTRACTS: spec.replaced and spec.UTF8 (texts of at most 2^20 bytes).
-/
import Derived.Test.YtapnlnikeniomaaDoorHRow
import Derived.Laws.Cover4
import Derived.Laws.IdiomStrings
import Derived.Lib.RuneLoops
import Derived.Handy
import Derived.Laws.RangeAny
import Derived.Lib.OthersKept
import Derived.Lib.Hide
import Derived.Outline
import Derived.Deep.LoopGhost
namespace Go.Proofs.YtapnlnikeniomaaDoor.H
open Go.RowKit Go.Proofs.YtapnlnikeniomaaDoorW.PrintWords Go.Proofs.YtapnlnikeniomaaDoorW.PrintLast Go.Proofs.YtapnlnikeniomaaDoorW.PrintMore
set_option linter.unusedVariables false
set_option linter.unusedSimpArgs false

def repN (s : ByteArray) : Nat → Nat → Bool
  | 0, _ => false
  | f + 1, pos => if pos < s.size then (if (Utf8.decode s pos).1 = 65533 ∧ (s.size - pos < 3 ∨ (s.extract pos (pos + 3)).toList ≠ [239, 191, 189]) then true else repN s f (pos + (Utf8.decode s pos).2)) else false
theorem width1 (s : ByteArray) (pos : Nat) (h : pos < s.size) : 1 ≤ (Utf8.decode s pos).2 := by
  by_cases ha : (s[pos]'h).toNat < 128
  · rw [decode_ascii s pos h ha]
    exact Nat.le_refl _
  · exact (decode_high s pos h (by omega)).2
theorem repN_end (s : ByteArray) (f pos : Nat) (h : ¬ pos < s.size) : repN s f pos = false := by
  cases f with
  | zero => rfl
  | succ f => rw [repN, if_neg h]
def spec_replaced.f (a0 : ByteArray) : Option Bool := if a0.size ≤ 1048576 then some (repN a0 a0.size 0) else none
theorem below_iter (w : World) (s : ByteArray) (pos : Nat) : Below w.heap.size w (w.iter s pos) := (Below.refl _ _).alloc (Nat.le_refl _) _
set_option maxHeartbeats 1600000 in
set_option maxRecDepth 100000 in
theorem replaced_walk (a0 : ByteArray) (r : Bool) (w : World) (hs : a0.size ≤ 1048576) (h : repN a0 a0.size 0 = r) :
    Calls Tryd.prog 18 #[.string a0] w fun e w' => e = .returned (.bool r) ∧ Below w.heap.size w w' := by
  have H := Lib.hid h
  clear h
  go_enter Tryd.func18, Tryd.ntmps18
  go_wp2
  go_loopw [] (fun w' => ∃ (pos f : Nat), w' = w.iter a0 pos ∧ a0.size ≤ pos + f ∧ Hid (repN a0 f pos = r)) (fun w' => a0.size - w'.iterPos w.heap.size)
  case atStart => exact ⟨0, a0.size, rfl, by omega, H⟩
  case round =>
    obtain ⟨pos, f, rfl, hf, HF⟩ := hrel
    clear H
    by_cases hp : pos < a0.size
    · have hnx : ∀ ty, (Instr.next (.pointer (some ⟨w.heap.size, 0, none⟩)) true ty).run Tryd.prog (w.iter a0 pos) = _ := fun ty => run_next_any w a0 pos ty hp
      have hw1 := width1 a0 pos hp
      obtain ⟨f, rfl⟩ : ∃ f', f = f' + 1 := ⟨f - 1, by omega⟩
      have hr := HF.out
      rw [repN, if_pos hp] at hr
      generalize hd : Utf8.decode a0 pos = d at hr hnx hw1
      obtain ⟨dr, dw⟩ := d
      simp only [] at hr hnx hw1
      clear HF hd
      by_cases h65 : dr = 65533
      · have b65 : ((dr : Int) == 65533) = true := by rw [h65]; rfl
        by_cases h3 : a0.size - pos < 3
        · rw [if_pos ⟨h65, .inl h3⟩] at hr
          have HR := Lib.hid hr
          have h3' : (a0.size : Int) - (pos : Int) < 3 := by omega
          clear hr h65
          go_wp2
          go_ret
          exact ⟨by rw [← HR.out]; rfl, below_iter _ _ _⟩
        · have p0 : (0 : Int) ≤ (pos : Int) := by omega
          have p1 : (pos : Int) ≤ (pos : Int) + 3 := by omega
          have p2 : (pos : Int) + 3 ≤ (a0.size : Int) := by omega
          have h3' : ¬ (a0.size : Int) - (pos : Int) < 3 := by omega
          by_cases he : (a0.extract pos (pos + 3)).toList = [239, 191, 189]
          · rw [if_neg (fun h => by
              rcases h.2 with h | h
              · exact h3 h
              · exact h he)] at hr
            have HR := Lib.hid hr
            have be : ((a0.extract pos (pos + 3)).toList == [239, 191, 189]) = true := by rw [he]; rfl
            clear hr h65 he
            go_wp2
            refine ⟨⟨pos + dw, f, rfl, by omega, HR⟩, ?_⟩
            simp
            omega
          · rw [if_pos ⟨h65, .inr he⟩] at hr
            have HR := Lib.hid hr
            have be : ((a0.extract pos (pos + 3)).toList == [239, 191, 189]) = false := beq_eq_false_iff_ne.2 he
            clear hr h65 he
            go_wp2
            go_ret
            exact ⟨by rw [← HR.out]; rfl, below_iter _ _ _⟩
      · have b65 : ((dr : Int) == 65533) = false := by rw [beq_eq_false_iff_ne]; omega
        rw [if_neg (fun h => h65 h.1)] at hr
        have HR := Lib.hid hr
        clear hr h65
        go_wp2
        refine ⟨⟨pos + dw, f, rfl, by omega, HR⟩, ?_⟩
        simp
        omega
    · have hnx : ∀ ty, (Instr.next (.pointer (some ⟨w.heap.size, 0, none⟩)) true ty).run Tryd.prog (w.iter a0 pos) = _ := fun ty => run_next_end w a0 pos ty hp
      have HN : Hid (r = false) := Lib.hid (HF.out.symm.trans (repN_end a0 f pos hp))
      clear HF
      go_wp2
      go_ret
      exact ⟨by rw [HN.out]; rfl, below_iter _ _ _⟩
theorem spec_replaced.calls (a0 : ByteArray) (r : Bool) (w : World) (h : spec_replaced.f a0 = some r) :
    Calls Tryd.prog 18 #[.string a0] w fun e w' => e = .returned (.bool r) ∧ Below w.heap.size w w' := by
  unfold spec_replaced.f at h
  split at h
  · exact replaced_walk a0 r w ‹_› (Option.some.inj h)
  · cases h
/-- The runes of a text. -/
def runesI (s : ByteArray) : Nat → Nat → List Int
  | 0, _ => []
  | f + 1, pos => if pos < s.size then ((Utf8.decode s pos).1 : Int) :: runesI s f (pos + (Utf8.decode s pos).2) else []
theorem runes_conv (s : ByteArray) : ∀ (f i : Nat) (acc : Array Value), Conv.runesFrom s f i acc = acc ++ ((runesI s f i).map (Value.int .i32)).toArray
  | 0, i, acc => by simp [Conv.runesFrom, runesI]
  | f + 1, i, acc => by
    rw [Conv.runesFrom, runesI]
    split
    · simp only []
      rw [runes_conv s f]
      simp
    · simp
theorem runes_len (s : ByteArray) : ∀ (f i : Nat), (runesI s f i).length ≤ f
  | 0, i => by simp [runesI]
  | f + 1, i => by
    rw [runesI]
    split
    · rw [List.length_cons]
      have := runes_len s f (i + (Utf8.decode s i).2)
      omega
    · simp
def utfB (s : ByteArray) : Bool := decide ((runesBytes (runesI s s.size 0)).toList = s.toList) && !repN s s.size 0
def spec_UTF8.f (a0 : ByteArray) : Option Bool := if a0.size ≤ 1048576 then some (utfB a0) else none
set_option maxHeartbeats 1600000 in
set_option maxRecDepth 100000 in
theorem spec_UTF8.calls (a0 : ByteArray) (r : Bool) (w : World) (h : spec_UTF8.f a0 = some r) :
    Calls Tryd.prog 10 #[.string a0] w fun e w' => e = .returned (.bool r) ∧ Below w.heap.size w w' := by
  unfold spec_UTF8.f at h
  by_cases hs : a0.size ≤ 1048576
  · rw [if_pos hs] at h
    have HR := Lib.hid (Option.some.inj h)
    clear h
    have hlen := runes_len a0 a0.size 0
    have hC : Conv.runesFrom a0 a0.size 0 #[] = ((runesI a0 a0.size 0).map (Value.int .i32)).toArray := by rw [runes_conv]; simp
    have h46 : (Conv.runesFrom a0 a0.size 0 #[]).size ≤ 70368744177664 := by
      rw [hC]
      simp
      omega
    have c1 := run_runes_of_string (P := Tryd.prog) w 9 33 21 a0 Tryd.underlying9 Tryd.underlying33 Tryd.underlying21 h46
    rw [hC] at c1
    have hsz : ((runesI a0 a0.size 0).map (Value.int .i32)).toArray.size = (runesI a0 a0.size 0).length := by simp
    rw [hsz] at c1
    generalize hcap : grownCap w (runesI a0 a0.size 0).length 0 21 = cap at c1
    obtain ⟨zs, hzs⟩ : ∃ zs, zs = runesI a0 a0.size 0 := ⟨_, rfl⟩
    rw [← hzs] at c1 hlen
    obtain ⟨W, hW⟩ : ∃ W, W = (w.alloc (.cells ((zs.map (Value.int .i32)).toArray ++ Array.replicate (cap - zs.length) (.int .i32 0)) 21)).drew := ⟨_, rfl⟩
    have hcell : ∀ j, j < zs.length → W.cell? ((⟨w.heap.size, 0, none⟩ : Addr).add j) = some (.int .i32 (zs.getD j 0)) := by
      intro j hj
      have hb : W.heap[w.heap.size]? = some (.cells ((zs.map (Value.int .i32)).toArray ++ Array.replicate (cap - zs.length) (.int .i32 0)) 21) := by
        rw [hW]
        exact heap_alloc_new w _
      have ha : (⟨w.heap.size, 0, none⟩ : Addr).add j = ⟨w.heap.size, j, none⟩ := by
        simp [Addr.add]
        exact fun h => h.symm
      rw [ha]
      simp only [World.cell?, hb]
      have : ((zs.map (Value.int .i32)).toArray ++ Array.replicate (cap - zs.length) (Value.int .i32 0))[j]? = some (.int .i32 (zs.getD j 0)) := by
        rw [Array.getElem?_append_left (by simpa using hj)]
        simp [List.getD, hj]
      simpa using this
    have c2 := run_convert_runes (P := Tryd.prog) W 33 9 21 ⟨w.heap.size, 0, none⟩ zs.length cap zs (Nat.le_refl _) Tryd.underlying33 Tryd.underlying21 Tryd.underlying9 hcell
    rw [List.take_length] at c2
    have HBW : Hid (Below w.heap.size w W) := Lib.hid (by rw [hW]; exact below_drew (below_alloc (Below.refl _ _) _))
    have c1' : (convert 9 33 (.string a0)).run Tryd.prog w = .ok (.slice (some ⟨w.heap.size, 0, none⟩) zs.length cap) W := by rw [hW]; exact c1
    have HR2 : Hid (r = (decide ((runesBytes zs).toList = a0.toList) && !repN a0 a0.size 0)) := Lib.hid (by rw [hzs]; exact HR.out.symm)
    obtain ⟨z, hz⟩ : ∃ z, z = runesBytes zs := ⟨_, rfl⟩
    rw [← hz] at c2 HR2
    clear c1 hcell hW HR hzs hC h46 hsz hcap hz hlen
    have HRP := Lib.hid (show spec_replaced.f a0 = some (repN a0 a0.size 0) by unfold spec_replaced.f; rw [if_pos hs])
    by_cases hb : z.toList = a0.toList
    · have b1 : (z.toList == a0.toList) = true := beq_iff_eq.2 hb
      cases hrr : repN a0 a0.size 0 with
      | true =>
        rw [hrr] at HRP HR2
        have HF : Hid (r = false) := Lib.hid (by rw [HR2.out, Bool.not_true, Bool.and_false])
        clear hrr hb HR2
        go_enter Tryd.func10, Tryd.ntmps10
        go_wp2_with fail
        refine (spec_replaced.calls a0 true W HRP.out).mono ?_
        rintro e w2 ⟨rfl, b2⟩
        have HB2 := Lib.hid (below_step HBW.out b2)
        clear b2 c1' c2
        go_wp2_with fail
        go_ret
        exact ⟨by rw [HF.out]; rfl, HB2.out⟩
      | false =>
        rw [hrr] at HRP HR2
        have HF : Hid (r = true) := Lib.hid (by rw [HR2.out, decide_eq_true hb]; rfl)
        clear hrr hb HR2
        go_enter Tryd.func10, Tryd.ntmps10
        go_wp2_with fail
        refine (spec_replaced.calls a0 false W HRP.out).mono ?_
        rintro e w2 ⟨rfl, b2⟩
        have HB2 := Lib.hid (below_step HBW.out b2)
        clear b2 c1' c2
        go_wp2_with fail
        go_ret
        exact ⟨by rw [HF.out]; rfl, HB2.out⟩
    · have b1 : (z.toList == a0.toList) = false := beq_eq_false_iff_ne.2 hb
      have HF : Hid (r = false) := Lib.hid (by rw [HR2.out, decide_eq_false hb, Bool.false_and])
      clear hb HR2
      go_enter Tryd.func10, Tryd.ntmps10
      go_wp2_with fail
      go_ret
      exact ⟨by rw [HF.out]; rfl, HBW.out⟩
  · rw [if_neg hs] at h
    cases h
end Go.Proofs.YtapnlnikeniomaaDoor.H

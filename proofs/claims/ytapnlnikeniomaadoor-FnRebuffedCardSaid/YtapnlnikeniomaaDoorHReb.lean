/-
  A CONTRACT: sqlx's rebindBuff (for dollar signs) writes dollar signs and numbers for question marks, rune by rune (texts of at most 2^20 bytes; a world in which strconv's table lies).
-/
import Derived.Test.YtapnlnikeniomaaDoorHUtf
import Derived.Test.YtapnlnikeniomaaDoorHBuf
import Derived.Test.YtapnlnikeniomaaDoorShelfX
import Derived.Lib.RuneLoops
namespace Go.Proofs.YtapnlnikeniomaaDoor.H
open Go.RowKit Go.Proofs.YtapnlnikeniomaaDoorW.PrintWords Go.Proofs.YtapnlnikeniomaaDoorW.PrintLast Go.Proofs.YtapnlnikeniomaaDoorW.PrintMore
set_option linter.unusedVariables false
set_option linter.unusedSimpArgs false

/-- Rune by rune, n numbers so far. -/
def rbL (s : ByteArray) : Nat → Nat → Nat → List UInt8
  | 0, _, _ => []
  | f + 1, pos, n => if pos < s.size then (if (Utf8.decode s pos).1 = 63 then 36 :: (Lib.itoa ((n + 1 : Nat) : Int) ++ rbL s f (pos + (Utf8.decode s pos).2) (n + 1)) else Lib.encodeRune (Utf8.decode s pos).1 ++ rbL s f (pos + (Utf8.decode s pos).2) n) else []
theorem rbL_end (s : ByteArray) (f pos n : Nat) (h : ¬ pos < s.size) : rbL s f pos n = [] := by
  cases f with
  | zero => rfl
  | succ f => rw [rbL, if_neg h]
theorem buf_rune (B b : Nat) (l : List UInt8) (r : Nat) (hr : r ≤ 2147483647) (w : World) (h : Buf B b l w) (hBw : B ≤ w.heap.size) (hlim : l.length + 4 ≤ 140737488355328) :
    Calls Tryd.prog 30 #[.pointer (some ⟨b, 0, none⟩), .int .i32 r] w fun e w' => (∃ v, e = .returned (.tuple #[v, .nilIface])) ∧ Buf B b (l ++ Lib.encodeRune r) w' ∧ Below B w w' ∧ Lib.OthersKept 5 (some b) w w' := by
  refine (Tryd.Buffer_WriteRune_k B b _ (r : Int) (by omega) (by omega) w h hBw (Lib.byteCells_one _) (by rw [Lib.byteCells_length]; exact hlim)).mono ?_
  rintro e w1 ⟨rfl, h1, h2, h3⟩
  refine ⟨⟨_, rfl⟩, ?_, h2, h3⟩
  unfold Buf
  rw [Lib.byteCells_append, Lib.byteCells_encodeRune]
  exact h1
theorem row_info : (Tryd.prog.info? 5).map (fun i => (i.zero, i.size, i.bytes)) = some (some (.int .u8 0), 1, 1) := by kernel_rfl
section
variable {ops : Array Oper} {rest : List Oper} {o : Oper} {a : Act} {Q : Exit → Act → World → Prop}
theorem make_bytes (w : World) (B : Nat) (hg : o.guard = none) (l c : Operand) (hop : o.op = Op.makeSlice 45 l c)
    (C : Int) (n : Nat) (hl : a.eval l = .int .i64 0) (hc : a.eval c = .int .i64 C) (hC : C = (n : Int)) (hn : n ≤ 281474976710656) (hB : B ≤ w.heap.size)
    (hK : ∀ w', w'.ownsRow B 5 1 (.slice (some ⟨w.heap.size, 0, none⟩) 0 n) 0 [] → w.grownBy w' none → wpList Tryd.prog ops Q rest (a.put o.dst (.slice (some ⟨w.heap.size, 0, none⟩) 0 n)) w') :
    wpList Tryd.prog ops Q (o :: rest) a w := by
  obtain ⟨i0, hi, hz0, hz1, hz2⟩ := info_parts row_info
  exact wpList_make_own w hg l c 45 hop B 5 i0 _ 1 Tryd.underlying45 hi hz0 hz1 .i64 .i64 C n hl hc hC (by rw [hz2]; omega) (by simp only [maxLen]; omega) hB hK
end
theorem buf_below2 {B b : Nat} {l : List UInt8} {w w2 : World} (h : Buf B b l w) (k : Below w.heap.size w w2) : Buf B b l w2 := by
  obtain ⟨h1, v, lr, hb, ho, hne⟩ := h
  refine ⟨h1, v, lr, (k.block b (Array.getElem?_eq_some_iff.1 hb).1).trans hb, ⟨ho.1, ?_⟩, hne⟩
  rcases ho.2 with hn | ⟨g, cap, cur, hv, hg0, hg, rest⟩
  · exact .inl hn
  · exact .inr ⟨g, cap, cur, hv, hg0, (k.block g (Array.getElem?_eq_some_iff.1 hg).1).trans hg, rest⟩
set_option maxRecDepth 100000 in
theorem new_buffer (g c : Nat) (w : World) : Calls Tryd.prog 29 #[.slice (some ⟨g, 0, none⟩) 0 c] w fun e w' => e = .returned (.pointer (some ⟨w.heap.size, 0, none⟩)) ∧ w' = w.alloc (.cells #[.slice (some ⟨g, 0, none⟩) 0 c, .int .i64 0, .int .i8 0] 55) := by
  go_enter Tryd.func29, Tryd.ntmps29
  go_wp2_with fail
  go_ret
  exact ⟨rfl, rfl⟩
set_option maxHeartbeats 6400000 in
set_option maxRecDepth 100000 in
theorem buff_walk (s : ByteArray) (hs : s.size ≤ 1048576) (w : World) (ht : Tab w) :
    Calls Tryd.prog 24 #[.int .i64 2, .string s] w fun e w' => e = .returned (.string ⟨(rbL s s.size 0 0).toArray⟩) ∧ Below w.heap.size w w' := by
  have HT := Lib.hid (tab_below ht)
  clear ht
  obtain ⟨r, hr⟩ : ∃ r : ByteArray, r = ⟨(rbL s s.size 0 0).toArray⟩ := ⟨_, rfl⟩
  rw [← hr]
  have HR := Lib.hid hr
  clear hr
  go_enter Tryd.func24, Tryd.ntmps24
  go_wp2_with (first | (at_make; refine make_bytes w w.heap.size rfl _ _ rfl _ s.size rfl rfl rfl (by omega) (Nat.le_refl _) ?_; intro w1 h1 g1; refine Hid.out ?_))
  refine Lib.hid ?_
  have b1 : Below w.heap.size w w1 := (Below.refl _ w).grown g1 (Nat.le_refl _) (fun k hk => by cases hk)
  have l1 := (World.ownsRow.lt h1 w.heap.size rfl).2
  have HO := Lib.hid h1
  have HB1 := Lib.hid b1
  clear h1 g1 b1
  go_wp2_with fail
  refine (new_buffer w.heap.size s.size w1).mono ?_
  rintro e w2 ⟨rfl, hw2⟩
  have HBF : Hid (Buf w.heap.size w1.heap.size [] w2) := Lib.hid (by
    rw [hw2]
    exact ⟨HB1.out.size, _, 0, heap_alloc_new w1 _, World.ownsRow.alloc HO.out _, by
      simp only [Value.ownBlock, ne_eq, Option.some.injEq]
      omega⟩)
  have HB2 : Hid (Below w.heap.size w w2) := Lib.hid (by rw [hw2]; exact below_alloc HB1.out _)
  have hB2 : w.heap.size ≤ w2.heap.size := HB2.out.size
  have hw12 : w1.heap.size < w2.heap.size := by
    rw [hw2]
    show _ < (w1.heap.push _).size
    simp
  obtain ⟨b, hb⟩ : ∃ b, b = w1.heap.size := ⟨_, rfl⟩
  rw [← hb] at HBF hw12 ⊢
  clear hw2 HO HB1 hb l1
  go_wp2_with fail
  have TI : Buf w.heap.size b [] (w2.alloc (.stringIter s 0)) := buf_below2 HBF.out ((Below.refl _ _).alloc (Nat.le_refl _) _)
  have BI := below_alloc HB2.out (.stringIter s 0)
  have hit0 : (w2.alloc (.stringIter s 0)).heap[w2.heap.size]? = some (.stringIter s 0) := World.iter_heap w2 s 0
  go_loopg [7] s.size (fun g v7 wr => ∃ (pos n : Nat) (acc : List UInt8), v7 = .int .i64 ((n : Int) + 1) ∧ wr.heap[w2.heap.size]? = some (.stringIter s pos) ∧ Hid (Buf w.heap.size b acc wr) ∧ Hid (Below w.heap.size w wr) ∧ Hid (acc ++ rbL s g pos n = rbL s s.size 0 0) ∧ s.size ≤ pos + g ∧ acc.length + 30 * g ≤ 30 * s.size ∧ n + g ≤ s.size)
  case atStart => exact ⟨0, 0, [], rfl, hit0, Lib.hid TI, Lib.hid BI, Lib.hid rfl, by omega, by simp, by omega⟩
  case round =>
    obtain ⟨pos, n, acc, rfl, hit, TP, BP, HACC, hpg, hal, hng⟩ := hrel
    clear TI BI hit0 HBF HB2
    have hBw : w.heap.size ≤ wr.heap.size := BP.out.size
    have hk : w2.heap.size < wr.heap.size := (Array.getElem?_eq_some_iff.1 hit).1
    by_cases hp : pos < s.size
    · have hnx : ∀ ty, (Instr.next (.pointer (some ⟨w2.heap.size, 0, none⟩)) true ty).run Tryd.prog wr = _ := fun ty => Lib.run_next_any_at wr w2.heap.size s pos ty hit hp
      have hw1 := width1 s pos hp
      have hdl := decode_le s pos
      cases gk with
      | zero => omega
      | succ g =>
        have ha := HACC.out
        rw [rbL, if_pos hp] at ha
        generalize hd : Utf8.decode s pos = d at ha hnx hw1 hdl
        obtain ⟨dr, dw⟩ := d
        simp only [] at ha hnx hw1 hdl
        have TQ : Hid (Buf w.heap.size b acc (wr.iterAt w2.heap.size s (pos + dw))) := Lib.hid (Lib.IsBuffer.iterAt TP.out hit (pos + dw))
        have BQ := Lib.hid (Lib.below_iterAt BP.out (k := w2.heap.size) hB2 s (pos + dw))
        have hit2 := Lib.iterAt_heap wr w2.heap.size s pos (pos + dw) hit
        have hsz : (wr.iterAt w2.heap.size s (pos + dw)).heap.size = wr.heap.size := Lib.iterAt_size _ _ _ _
        have hBi : w.heap.size ≤ (wr.iterAt w2.heap.size s (pos + dw)).heap.size := by omega
        have HIT2 := Lib.hid hit2
        clear TP BP HACC hit hd hit2 hsz hBw
        generalize wr.iterAt w2.heap.size s (pos + dw) = wi at hnx TQ BQ HIT2 hBi
        by_cases h63 : dr = 63
        · have b63 : ((dr : Int) == 63) = true := by rw [h63]; rfl
          rw [if_pos h63] at ha
          have HA2 := Lib.hid ha
          clear ha h63
          have hIl := Lib.itoa_length_le ((n : Int) + 1) (by omega) (by omega)
          go_wp2_with fail
          refine (buf_rune w.heap.size b acc 36 (by omega) _ TQ.out hBi (by omega)).mono ?_
          rintro e w4 ⟨⟨v4, rfl⟩, hb4, bb4, k4⟩
          have T4 : Hid (Buf w.heap.size b (acc ++ [36]) w4) := Lib.hid hb4
          have B4 := Lib.hid (below_weaken BQ.out (Nat.le_refl _) bb4)
          have H4 := Lib.hid (k4.iter HIT2.out (by omega))
          have hB4 : w.heap.size ≤ w4.heap.size := by have := bb4.size; omega
          clear hb4 bb4 k4 TQ BQ HIT2 hBi hnx
          go_wp2_with fail
          refine (itoa_at ((n : Int) + 1) (by omega) (by omega) _ (tab_at HT.out B4.out)).mono ?_
          rintro e w5 ⟨rfl, b5⟩
          have T5 := Lib.hid (buf_below2 T4.out b5)
          have B5 := Lib.hid (below_step B4.out b5)
          have H5 : Hid (w5.heap[w2.heap.size]? = some (.stringIter s (pos + dw))) := Lib.hid ((b5.block _ (Array.getElem?_eq_some_iff.1 H4.out).1).trans H4.out)
          have hB5 : w.heap.size ≤ w5.heap.size := by have := b5.size; omega
          clear b5 T4 B4 H4 hB4
          go_wp2_with fail
          refine (buf_write w.heap.size b (acc ++ [36]) _ _ T5.out hB5 (by simp only [List.length_append, List.length_cons, List.length_nil]; show acc.length + 1 + (Lib.itoa ((n : Int) + 1)).length ≤ _; omega)).mono ?_
          rintro e w6 ⟨rfl, hb6, bb6, k6⟩
          have T6 : Hid (Buf w.heap.size b (acc ++ [36] ++ Lib.itoa ((n : Int) + 1)) w6) := Lib.hid hb6
          have B6 := Lib.hid (below_weaken B5.out (Nat.le_refl _) bb6)
          have H6 := Lib.hid (k6.iter H5.out (by omega))
          clear hb6 bb6 k6 T5 B5 H5 hB5
          go_wp2_with fail
          go_roundg g
          case measure => omega
          case rel =>
            refine ⟨pos + dw, n + 1, acc ++ [36] ++ Lib.itoa ((n : Int) + 1), rfl, H6.out, T6, B6, Lib.hid ?_, by omega, by simp only [List.length_append, List.length_cons, List.length_nil]; omega, by omega⟩
            rw [← HA2.out, show ((n + 1 : Nat) : Int) = (n : Int) + 1 by omega]
            simp only [List.append_assoc, List.cons_append, List.nil_append]
        · have b63 : ((dr : Int) == 63) = false := by rw [beq_eq_false_iff_ne]; omega
          rw [if_neg h63] at ha
          have HA2 := Lib.hid ha
          clear ha h63
          go_wp2_with fail
          refine (buf_rune w.heap.size b acc dr (by omega) _ TQ.out hBi (by omega)).mono ?_
          rintro e w4 ⟨⟨v4, rfl⟩, hb4, bb4, k4⟩
          have T4 := Lib.hid hb4
          have B4 := Lib.hid (below_weaken BQ.out (Nat.le_refl _) bb4)
          have H4 := Lib.hid (k4.iter HIT2.out (by omega))
          have hl4 : (Lib.encodeRune (dr : Int)).length ≤ 4 := by
            have := Lib.runeCells_le (dr : Int)
            rw [Lib.runeCells_length] at this
            exact this.2
          clear hb4 bb4 k4 TQ BQ HIT2 hBi hnx
          go_wp2_with fail
          go_roundg g
          case measure => omega
          case rel =>
            refine ⟨pos + dw, n, acc ++ Lib.encodeRune (dr : Int), rfl, H4.out, T4, B4, Lib.hid ?_, by omega, by rw [List.length_append]; omega, by omega⟩
            rw [← HA2.out, List.append_assoc]
    · have hnx : ∀ ty, (Instr.next (.pointer (some ⟨w2.heap.size, 0, none⟩)) true ty).run Tryd.prog wr = _ := fun ty => Lib.run_next_end_at wr w2.heap.size s pos ty hit hp
      have HA2 : Hid ((⟨acc.toArray⟩ : ByteArray) = r) := Lib.hid (by
        have := HACC.out
        rw [rbL_end s gk pos n hp, List.append_nil] at this
        rw [HR.out, this])
      clear hit HACC
      go_wp2_with fail
      refine (buf_string w.heap.size b acc wr TP.out).mono ?_
      rintro e w5 ⟨rfl, ⟨n5, rfl⟩⟩
      go_wp2_with fail
      go_ret
      exact ⟨by rw [← HA2.out]; rfl, pw_below_drewN BP.out n5⟩
def impl_Rebuffed.f (a0 : ByteArray) : Option ByteArray := if a0.size ≤ 1048576 then some ⟨(rbL a0 a0.size 0 0).toArray⟩ else none
set_option maxRecDepth 100000 in
theorem door_walk (s : ByteArray) (hs : s.size ≤ 1048576) (w : World) (ht : Tab w) :
    Calls Tryd.prog 19 #[.int .i64 2, .string s] w fun e w' => e = .returned (.string ⟨(rbL s s.size 0 0).toArray⟩) ∧ Below w.heap.size w w' := by
  have HW := Lib.hid (buff_walk s hs w ht)
  clear ht
  go_enter Tryd.func19, Tryd.ntmps19
  go_wp2_with fail
  refine HW.out.mono ?_
  rintro e w2 ⟨rfl, b2⟩
  have HB := Lib.hid b2
  clear b2 HW
  go_wp2_with fail
  go_ret
  exact ⟨rfl, HB.out⟩
set_option maxRecDepth 100000 in
theorem impl_Rebuffed.calls (a0 : ByteArray) (r : ByteArray) (w : World) (ht : Tab w) (h : impl_Rebuffed.f a0 = some r) :
    Calls Tryd.prog 11 #[.string a0] w fun e w' => e = .returned (.string r) ∧ Below w.heap.size w w' := by
  unfold impl_Rebuffed.f at h
  by_cases hs : a0.size ≤ 1048576
  · rw [if_pos hs] at h
    obtain rfl := Option.some.inj h
    have HW := Lib.hid (door_walk a0 hs w ht)
    clear ht h
    go_enter Tryd.func11, Tryd.ntmps11
    go_wp2_with fail
    refine HW.out.mono ?_
    rintro e w2 ⟨rfl, b2⟩
    have HB := Lib.hid b2
    clear b2 HW
    go_wp2_with fail
    go_ret
    exact ⟨rfl, HB.out⟩
  · rw [if_neg hs] at h
    cases h
end Go.Proofs.YtapnlnikeniomaaDoor.H

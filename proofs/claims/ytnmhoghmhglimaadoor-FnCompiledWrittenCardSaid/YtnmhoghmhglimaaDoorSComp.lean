/-
  PLAIN: the reference's Compiled comes to what compileNamedQuery comes to, where it is sure (texts of at most 2^20 bytes).
-/
import Derived.Test.YtnmhoghmhglimaaDoorSBits
import Derived.Test.YtnmhoghmhglimaaDoorHCompI
import Derived.Test.YtnmhoghmhglimaaDoorHRebind
import Derived.Test.YtnmhoghmhglimaaDoorQC4
import Derived.Test.YtnmhoghmhglimaaDoorQC5
import Derived.Test.YtnmhoghmhglimaaDoorQC10
namespace Go.Proofs.YtnmhoghmhglimaaDoor.SC
open Go.RowKit Go.Proofs.YtnmhoghmhglimaaDoor.QC Go.Proofs.YtnmhoghmhglimaaDoor.H Go.Proofs.YtnmhoghmhglimaaDoorW.PrintWords Go.Proofs.YtnmhoghmhglimaaDoorW.PrintLast Go.Proofs.YtnmhoghmhglimaaDoorW.PrintMore
set_option linter.unusedVariables false
set_option linter.unusedSimpArgs false

def bytesL (l : List (List UInt8)) : List ByteArray := l.map fun x => ⟨x.toArray⟩
theorem cat_mk (a b : List UInt8) : (⟨a.toArray⟩ : ByteArray) ++ ⟨b.toArray⟩ = ⟨(a ++ b).toArray⟩ := ByteArray.ext (by simp)
theorem mk_size (a : List UInt8) : (⟨a.toArray⟩ : ByteArray).size = a.length := rfl
theorem bits_len : ∀ (f : Nat) (l : List UInt8) (sure : Bool) (acc : List (Bool × List UInt8)), l.length ≤ f → (bitsF f l sure acc).1.length ≤ acc.length + l.length ∧ ∀ p ∈ (bitsF f l sure acc).1, p ∈ acc ∨ p.2.length ≤ l.length + 1
  | 0, l, sure, acc, hf => ⟨by simp [bitsF], fun p hp => .inl hp⟩
  | f + 1, [], sure, acc, hf => ⟨by simp [bitsF], fun p hp => .inl hp⟩
  | f + 1, c :: t, sure, acc, hf => by
    have key : ∀ (l' : List UInt8) (su : Bool) (b : Bool) (x : List UInt8), l'.length + 1 ≤ (c :: t).length → x.length ≤ (c :: t).length + 1 → (bitsF f l' su (acc ++ [(b, x)])).1.length ≤ acc.length + (c :: t).length ∧ ∀ p ∈ (bitsF f l' su (acc ++ [(b, x)])).1, p ∈ acc ∨ p.2.length ≤ (c :: t).length + 1 := by
      intro l' su b x h1 h2
      obtain ⟨h3, h4⟩ := bits_len f l' su (acc ++ [(b, x)]) (by simp only [List.length_cons] at h1 hf ⊢; omega)
      refine ⟨by rw [List.length_append] at h3; simp only [List.length_cons, List.length_nil] at h1 h3 ⊢; omega, fun p hp => ?_⟩
      rcases h4 p hp with h5 | h5
      · rcases List.mem_append.1 h5 with h6 | h6
        · exact .inl h6
        · rw [List.mem_singleton.1 h6]
          exact .inr h2
      · exact .inr (by omega)
    rw [bitsF.eq_def]
    simp only []
    split
    · split
      · exact ⟨by simp, fun p hp => .inl hp⟩
      · rename_i d u
        split
        · exact key u sure false [58] (by simp) (by simp)
        · split
          · exact key u _ false [58, 61] (by simp) (by simp)
          · have ht := (List.takeWhile_sublist isNm (l := d :: u)).length_le
            split
            · refine ⟨by simp, fun p hp => ?_⟩
              rcases List.mem_append.1 hp with h6 | h6
              · exact .inl h6
              · rw [List.mem_singleton.1 h6]
                refine .inr ?_
                simp only [List.length_cons] at ht ⊢
                omega
            · rename_i e v hd
              have hd2 := (List.dropWhile_sublist isNm (l := d :: u)).length_le
              rw [hd] at hd2
              split
              · exact ⟨by simp, fun p hp => by simp at hp⟩
              · exact key (e :: v) _ true _ (by simp only [List.length_cons] at hd2 ⊢; omega) (by simp only [List.length_cons] at ht ⊢; omega)
    · rename_i hc
      have ht := (List.takeWhile_sublist (· != (58 : UInt8)) (l := c :: t)).length_le
      have hd2 : ((c :: t).dropWhile (· != (58 : UInt8))).length ≤ t.length := by
        rw [List.dropWhile_cons, if_pos (bne_iff_ne.2 hc)]
        exact (List.dropWhile_sublist _).length_le
      exact key _ _ false _ (by simp only [List.length_cons]; omega) (by omega)
theorem mark_is (kind : Int) (n : Nat) (hn : n ≤ 1048577) (nm : List UInt8) (hl : nm.length ≤ 1048577) :
    Ev (fun k => spec_Mark.f k kind (n : Int) ⟨nm.toArray⟩) ⟨(markC kind n nm).toArray⟩ := by
  have hd := decimal_is n (by omega)
  have hil := Lib.itoa_length_le (n : Int) (by omega) (by omega)
  have b1 : 1 + (⟨(Lib.itoa (n : Int)).toArray⟩ : ByteArray).size ≤ 9223372036854775807 := by rw [mk_size]; omega
  have b2 : 2 + (⟨(Lib.itoa (n : Int)).toArray⟩ : ByteArray).size ≤ 9223372036854775807 := by rw [mk_size]; omega
  have b3 : 1 + (⟨nm.toArray⟩ : ByteArray).size ≤ 9223372036854775807 := by rw [mk_size]; omega
  unfold markC
  by_cases h2 : kind = 2
  · subst h2
    refine Ev.congr (f := fun k => (spec_decimal.f k (n : Int)).bind fun t => (if 1 + t.size ≤ 9223372036854775807 then (some ((⟨#[36]⟩ : ByteArray) ++ t)) else (none))) (fun k => by simp only [spec_Mark.f]; rw [if_pos trivial]) (Ev.bind hd ?_)
    exact Ev.congr (f := fun _ => some ⟨(36 :: Lib.itoa (n : Int)).toArray⟩) (fun k => by rw [if_pos b1]; exact congrArg some (cat_mk [36] _)) (Ev.now _)
  by_cases h4 : kind = 4
  · subst h4
    refine Ev.congr (f := fun k => (spec_decimal.f k (n : Int)).bind fun t => (if 2 + t.size ≤ 9223372036854775807 then (some ((⟨#[64, 112]⟩ : ByteArray) ++ t)) else (none))) (fun k => by simp only [spec_Mark.f]; rw [if_neg (by decide), if_pos trivial]) (Ev.bind hd ?_)
    exact Ev.congr (f := fun _ => some ⟨(64 :: 112 :: Lib.itoa (n : Int)).toArray⟩) (fun k => by rw [if_pos b2]; exact congrArg some (cat_mk [64, 112] _)) (Ev.now _)
  by_cases h3 : kind = 3
  · subst h3
    exact Ev.congr (f := fun _ => some ⟨(58 :: nm).toArray⟩) (fun k => by simp only [spec_Mark.f]; rw [if_neg (by decide), if_neg (by decide), if_pos trivial, if_pos b3]; exact congrArg some (cat_mk [58] _)) (Ev.now _)
  · rw [if_neg h3, if_neg h2, if_neg h4]
    exact Ev.congr (f := fun _ => some ⟨#[63]⟩) (fun k => by simp only [spec_Mark.f]; rw [if_neg h2, if_neg h4, if_neg h3]) (Ev.now _)
theorem rd_toS (l : List (Bool × List UInt8)) (j : Nat) (h : j < l.length) : rd_T72 (toS l) (j : Int) = ⟨(l[j]'h).1, ⟨(l[j]'h).2.toArray⟩⟩ := by
  simp [rd_T72, toS, h]
theorem markC_le (kind : Int) (n : Nat) (nm : List UInt8) (hn : n ≤ 2097152) : (markC kind n nm).length ≤ 24 + nm.length := by
  have hl := Lib.itoa_length_le (n : Int) (by omega) (by omega)
  unfold markC
  split
  · simp
    omega
  · split
    · simp
      omega
    · split
      · simp
        omega
      · simp
        omega
theorem comp_ev (kind : Int) (sure : Bool) (l : List (Bool × List UInt8)) (hl : l.length ≤ 1048576) (hp : ∀ p ∈ l, p.2.length ≤ 1048577) : ∀ (d j : Nat) (nms : List (List UInt8)) (out : List UInt8), l.length - j = d → j ≤ l.length → nms.length ≤ j → out.length ≤ j * 2097152 →
    Ev (fun k => spec_Compiled.l0 k kind ⟨out.toArray⟩ (bytesL nms) true sure (toS l) (j : Int)) (⟨(foldB kind (l.drop j) nms out).2.toArray⟩, bytesL (foldB kind (l.drop j) nms out).1, true, sure) := by
  have hL : (toS l).length = l.length := toS_len l
  intro d
  induction d with
  | zero =>
    intro j nms out hd hj hn ho
    rw [List.drop_eq_nil_of_le (by omega)]
    have c1 : ¬ (j : Int) < ((toS l).length : Int) := by omega
    refine Ev.step (f := fun k => spec_Compiled.j1 k kind ⟨out.toArray⟩ (bytesL nms) true sure (toS l) (j : Int) false) (fun k => ?_) (Ev.step (f := fun _ => some (⟨out.toArray⟩, bytesL nms, true, sure)) (fun k => ?_) (Ev.now _))
    · simp only [spec_Compiled.l0]
      rw [if_neg c1]
    · simp only [spec_Compiled.j1]
      rw [if_neg (by decide), if_pos trivial]
  | succ d ih =>
    intro j nms out hd hj hn ho
    have hlt : j < l.length := by omega
    have c1 : (j : Int) < ((toS l).length : Int) := by omega
    have c0 : (0 : Int) ≤ (j : Int) := by omega
    have e1 : wrap64 ((j : Int) + 1) = ((j + 1 : Nat) : Int) := w64n j 1 (j + 1) (by omega) (by omega)
    have hrd := rd_toS l j hlt
    have hmem := hp _ (List.getElem_mem hlt)
    obtain ⟨p, hpe⟩ : ∃ p, p = l[j]'hlt := ⟨_, rfl⟩
    rw [List.drop_eq_getElem_cons hlt, ← hpe]
    rw [← hpe] at hrd hmem
    obtain ⟨b, x⟩ := p
    simp only [] at hrd hmem
    have hb : (bytesL nms).length = nms.length := by simp [bytesL]
    have hb2 : bytesL nms ++ [(⟨x.toArray⟩ : ByteArray)] = bytesL (nms ++ [x]) := by simp [bytesL]
    have hb3 : ((bytesL (nms ++ [x])).length : Int) = ((nms.length + 1 : Nat) : Int) := by simp [bytesL]
    have hb4 : (bytesL nms).length < 8796093022208 := by rw [hb]; omega
    have ho2 : out.length ≤ 1048576 * 2097152 := Nat.le_trans ho (Nat.mul_le_mul_right _ (by omega))
    cases b with
    | true =>
      have hm := mark_is kind (nms.length + 1) (by omega) x hmem
      have hml := markC_le kind (nms.length + 1) x (by omega)
      have hih := ih (j + 1) (nms ++ [x]) (out ++ markC kind (nms.length + 1) x) (by omega) (by omega) (by simp; omega) (by rw [List.length_append, Nat.succ_mul]; omega)
      have c4 : (⟨out.toArray⟩ : ByteArray).size + (⟨(markC kind (nms.length + 1) x).toArray⟩ : ByteArray).size ≤ 9223372036854775807 := by rw [mk_size, mk_size]; omega
      refine Ev.step (f := fun k => spec_Compiled.j1 k kind ⟨out.toArray⟩ (bytesL nms) true sure (toS l) (j : Int) true) (fun k => by simp only [spec_Compiled.l0]; rw [if_pos c1]) ?_
      refine Ev.step (f := fun k => (spec_Mark.f k kind ((nms.length + 1 : Nat) : Int) ⟨x.toArray⟩).bind fun t140 => (if (⟨out.toArray⟩ : ByteArray).size + t140.size ≤ 9223372036854775807 then (spec_Compiled.l0 k kind ((⟨out.toArray⟩ : ByteArray) ++ t140) (bytesL (nms ++ [x])) true sure (toS l) ((j + 1 : Nat) : Int)) else (none))) (fun k => ?_) (Ev.bind hm ?_)
      · simp only [spec_Compiled.j1]
        rw [if_pos trivial, if_pos c0, if_pos c1, hrd, if_pos rfl, if_pos hb4, hb2, Option.bind_some, hb3, e1]
      · refine Ev.congr (fun k => ?_) hih
        exact (if_pos c4).trans (by rw [cat_mk])
    | false =>
      have hih := ih (j + 1) nms (out ++ x) (by omega) (by omega) (by omega) (by rw [List.length_append, Nat.succ_mul]; omega)
      have c4 : (⟨out.toArray⟩ : ByteArray).size + (⟨x.toArray⟩ : ByteArray).size ≤ 9223372036854775807 := by rw [mk_size, mk_size]; omega
      refine Ev.step (f := fun k => spec_Compiled.j1 k kind ⟨out.toArray⟩ (bytesL nms) true sure (toS l) (j : Int) true) (fun k => by simp only [spec_Compiled.l0]; rw [if_pos c1]) ?_
      refine Ev.step (fun k => ?_) hih
      simp only [spec_Compiled.j1]
      rw [if_pos trivial, if_pos c0, if_pos c1, hrd, if_neg (show ¬ (false = true) by decide)]
      exact (if_pos c4).trans (by rw [cat_mk, e1])
theorem comp_no (kind : Int) (sure : Bool) (l : List S72) (out : ByteArray) (nms : List ByteArray) (j : Int) :
    Ev (fun k => spec_Compiled.l0 k kind out nms false sure l j) (⟨#[]⟩, [], false, sure) := by
  refine Ev.step (f := fun k => spec_Compiled.j1 k kind out nms false sure l j false) (fun k => ?_) (Ev.step (f := fun _ => some (⟨#[]⟩, [], false, sure)) (fun k => ?_) (Ev.now _))
  · simp only [spec_Compiled.l0]
    split <;> rfl
  · simp only [spec_Compiled.j1]
    rw [if_neg (by decide), if_neg (by decide)]
/-- The parts of a text. -/
def bitsOf (s : ByteArray) : List (Bool × List UInt8) × Bool × Bool := bitsF s.size s.data.toList true []
/-- What the reference answers. -/
def compOf (kind : Int) (s : ByteArray) : ByteArray × List ByteArray × Bool × Bool :=
  if (bitsOf s).2.1 = true then (⟨(foldB kind (bitsOf s).1 [] []).2.toArray⟩, bytesL (foldB kind (bitsOf s).1 [] []).1, true, (bitsOf s).2.2) else (⟨#[]⟩, [], false, (bitsOf s).2.2)
theorem compiled_is (kind : Int) (s : ByteArray) (hs : s.size ≤ 1048576) : Ev (fun k => spec_Compiled.f k kind s) (compOf kind s) := by
  have hl : s.data.toList.length = s.size := Array.length_toList
  have hb := bits_ev s hs s.size 0 true [] (by omega) (by omega) (by simp)
  rw [List.drop_zero] at hb
  obtain ⟨h1, h2⟩ := bits_len s.size s.data.toList true [] (by omega)
  have hb' : Ev (fun k => spec_Bits.f k s) (outOf (bitsOf s)) := hb
  change (bitsOf s).1.length ≤ _ at h1
  change ∀ p ∈ (bitsOf s).1, _ at h2
  rw [hl] at h1
  rw [hl] at h2
  refine Ev.congr (fun k => rfl) (Ev.bind hb' ?_)
  unfold compOf
  generalize bitsOf s = r at h1 h2
  obtain ⟨l, ok, sure⟩ := r
  simp only [outOf] at h1 h2 ⊢
  cases ok with
  | true =>
    rw [if_pos rfl]
    have := comp_ev kind sure l (by simp at h1; omega) (fun p hp => by
      rcases h2 p hp with h | h
      · simp at h
      · omega) l.length 0 [] [] (by omega) (by omega) (by simp) (by simp)
    rw [List.drop_zero] at this
    exact this
  | false =>
    rw [if_neg (by decide)]
    exact comp_no kind sure (toS l) _ _ _
/-- Where it is sure, the reference and the program answer alike. -/
theorem comp_sure (kind : Int) (s : ByteArray) (h : (bitsOf s).2.2 = true) :
    (∃ more, (bitsOf s).2.1 = true ∧ (bitsOf s).1 = more ∧ (∀ kind nm nms out, runC kind s.data.toList false nm nms out = some (foldB kind more nms out))) ∨ ((bitsOf s).2.1 = false ∧ ∀ kind nm nms out, runC kind s.data.toList false nm nms out = none) := by
  have hl : s.data.toList.length = s.size := Array.length_toList
  rcases run_bits s.size s.data.toList true [] (by omega) h with ⟨h1, more, h2, h3⟩ | ⟨h1, _, h3⟩
  · exact .inl ⟨more, h1, h2, h3⟩
  · exact .inr ⟨h1, h3⟩
/-! what the laws share -/
set_option linter.unusedVariables false
set_option linter.unusedSimpArgs false

theorem same_ev (l : List ByteArray) (hl : l.length ≤ 1048576) : Ev (fun k => laws_sameTexts9.f k l l) true := by
  have key : ∀ (d i : Nat), l.length - i = d → i ≤ l.length → Ev (fun k => laws_sameTexts9.l0 k l l (i : Int)) true := by
    intro d
    induction d with
    | zero =>
      intro i hd hi
      have c1 : ¬ (i : Int) < (l.length : Int) := by omega
      exact Ev.step (f := fun _ => some true) (fun k => by simp only [laws_sameTexts9.l0]; rw [if_neg c1]) (Ev.now _)
    | succ d ih =>
      intro i hd hi
      have c1 : (i : Int) < (l.length : Int) := by omega
      have c0 : (0 : Int) ≤ (i : Int) := by omega
      have e1 : wrap64 ((i : Int) + 1) = ((i + 1 : Nat) : Int) := w64n i 1 (i + 1) (by omega) (by omega)
      exact Ev.step (fun k => by simp only [laws_sameTexts9.l0]; rw [if_pos c1, if_pos c0, if_pos c1, if_pos trivial, e1]) (ih (i + 1) (by omega) (by omega))
  exact Ev.congr (fun k => by simp only [laws_sameTexts9.f]; rw [if_pos trivial]; rfl) (key l.length 0 (by omega) (by omega))
theorem kind_is (a : Int) (h : (Lit.int .u8 a).wf = true) : ∃ kd, laws_kind9.f a = some kd ∧ 0 ≤ kd ∧ kd ≤ 4 := by
  have hr : 0 ≤ a ∧ a ≤ 255 := by
    simp [Lit.wf, IntKind.min, IntKind.max, IntKind.signed, IntKind.bits] at h
    omega
  refine ⟨_, rfl, ?_⟩
  rw [IntWalk.wrap64_in a (by omega)]
  obtain ⟨n, rfl⟩ := Int.eq_ofNat_of_zero_le hr.1
  have : Int.tmod (n : Int) 5 = ((n % 5 : Nat) : Int) := rfl
  rw [this, IntWalk.wrap64_in _ (by omega)]
  omega
theorem names_len (more : List (Bool × List UInt8)) : (nB more).length ≤ more.length := by
  induction more with
  | nil => exact Nat.le_refl _
  | cons p t ih =>
    obtain ⟨b, x⟩ := p
    cases b with
    | true =>
      show (nB t).length + 1 ≤ t.length + 1
      omega
    | false =>
      show (nB t).length ≤ t.length + 1
      omega
/-- Where the reference is sure. -/
theorem law_sure (s : ByteArray) (hs : s.size ≤ 1048576) (h : (bitsOf s).2.2 = true) :
    (∃ more : List (Bool × List UInt8), (bitsOf s).1 = more ∧ more.length ≤ s.size ∧ (∀ p ∈ more, p.2.length ≤ s.size + 1) ∧ (∀ p ∈ more, ∀ c ∈ p.2, c ∈ s.data.toList) ∧ (one58 s.data.toList = true → flatB more = s.data.toList) ∧ ∀ kind : Int, 0 ≤ kind → kind ≤ 4 →
      compOf kind s = (⟨(tB kind more 0).toArray⟩, bytesL (nB more), true, true) ∧ impl_Compiled.f kind s = some (⟨(tB kind more 0).toArray⟩, bytesL (nB more), true)) ∨
    (∀ kind : Int, 0 ≤ kind → kind ≤ 4 → compOf kind s = (⟨#[]⟩, [], false, true) ∧ impl_Compiled.f kind s = some (⟨#[]⟩, [], false)) := by
  have hl : s.data.toList.length = s.size := Array.length_toList
  rcases comp_sure 0 s h with ⟨more, hok, hmore, hrun⟩ | ⟨hok, hrun⟩
  · refine .inl ⟨more, hmore, ?_⟩
    obtain ⟨h1, h2⟩ := bits_len s.size s.data.toList true [] (by omega)
    change (bitsOf s).1.length ≤ _ at h1
    change ∀ p ∈ (bitsOf s).1, _ at h2
    obtain ⟨m2, h3, h4, h5⟩ := bits_all s.size s.data.toList true [] (by omega) h hok
    change (bitsOf s).1 = _ at h3
    rw [List.nil_append, hmore] at h3
    subst h3
    rw [hmore, hl] at h1
    rw [hmore, hl] at h2
    refine ⟨by simpa using h1, fun p hp => ?_, h4, h5, fun kind k0 k4 => ⟨?_, ?_⟩⟩
    · rcases h2 p hp with h | h
      · simp at h
      · exact h
    · unfold compOf
      rw [if_pos hok, hmore, foldB_is, h]
      simp
    · unfold impl_Compiled.f
      rw [if_pos ⟨hs, k0, k4⟩, hrun, foldB_is]
      simp [textsL, bytesL]
  · refine .inr fun kind k0 k4 => ⟨?_, ?_⟩
    · unfold compOf
      rw [if_neg (by rw [hok]; decide), h]
    · unfold impl_Compiled.f
      rw [if_pos ⟨hs, k0, k4⟩, hrun]
theorem names_short (more : List (Bool × List UInt8)) (n : Nat) (h : more.length ≤ n) : (bytesL (nB more)).length ≤ n := by
  have := names_len more
  simp [bytesL]
  omega
theorem comp_unsure (kind : Int) (s : ByteArray) (h : ¬ (bitsOf s).2.2 = true) : (compOf kind s).2.2.2 = false := by
  unfold compOf
  split <;> simpa using h
end Go.Proofs.YtnmhoghmhglimaaDoor.SC

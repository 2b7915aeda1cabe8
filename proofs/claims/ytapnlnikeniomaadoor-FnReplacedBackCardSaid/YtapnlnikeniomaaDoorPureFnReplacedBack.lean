/-
  PROVED: 'laws.FnReplacedBack': the signs of a form, turned back into question marks, are the text. No condition.
-/
import Derived.Test.YtapnlnikeniomaaDoorSRep
import Derived.Test.YtapnlnikeniomaaDoorQP2
namespace Go.Proofs.YtapnlnikeniomaaDoor.Pure
open Go.RowKit Go.Proofs.YtapnlnikeniomaaDoor.QP Go.Proofs.YtapnlnikeniomaaDoor.H Go.Proofs.YtapnlnikeniomaaDoor.S Go.Proofs.YtapnlnikeniomaaDoorW.PrintWords Go.Proofs.YtapnlnikeniomaaDoorW.PrintLast Go.Proofs.YtapnlnikeniomaaDoorW.PrintMore
set_option linter.unusedVariables false

/-- Letters, blanks and single question marks; a question mark stands ahead or not. -/
def goodL : Bool → List UInt8 → Bool
  | _, [] => true
  | q, c :: t => (c == 32 || (c == 63 && !q) || (decide (97 ≤ c.toNat) && decide (c.toNat ≤ 122))) && goodL (c == 63) t
theorem bt_lt {c : UInt8} {n : Nat} : ((c.toNat : Int) < (n : Int)) ↔ c.toNat < n := Int.ofNat_lt
theorem int_nat_lt (c : UInt8) : ((c.toNat : Int) < 97) ↔ ¬ 97 ≤ c.toNat := by omega
theorem int_nat_gt (c : UInt8) : ((c.toNat : Int) > 122) ↔ ¬ c.toNat ≤ 122 := by omega
def prevQ (s : ByteArray) (i : Nat) : Bool := if h : 0 < i ∧ i - 1 < s.size then s[i - 1]'h.2 == 63 else false
theorem prevQ_succ (s : ByteArray) (i : Nat) (h : i < s.size) : prevQ s (i + 1) = (s[i]'h == 63) := by
  unfold prevQ
  rw [dif_pos ⟨by omega, by simpa using h⟩]
  rfl
/-- A round of the law's first loop. -/
theorem check_step [Inhabited TabT] (a0 : Int) (s : ByteArray) (hs : s.size ≤ 1000) (i : Nat) (h : i < s.size) :
    (∀ k, laws_FnReplacedBack.l0 (k + 1) a0 s (i : Int) = if (s[i]'h == 32 || (s[i]'h == 63 && !prevQ s i) || (decide (97 ≤ (s[i]'h).toNat) && decide ((s[i]'h).toNat ≤ 122))) = true then laws_FnReplacedBack.l0 k a0 s ((i + 1 : Nat) : Int) else some true) := by
  intro k
  have c1 : (i : Int) < (s.size : Int) := by omega
  have c0 : (0 : Int) ≤ (i : Int) := by omega
  have e1 : wrap64 ((i : Int) + 1) = ((i + 1 : Nat) : Int) := w64n i 1 (i + 1) (by omega) (by omega)
  have hb := bt_n s i h
  simp only [laws_FnReplacedBack.l0]
  rw [if_pos c1, if_pos c0, e1, hb]
  by_cases h32 : s[i]'h = 32
  · have x32 := (byte_eq (b := s[i]'h) (c := 32) (k := 32) rfl).2 h32
    have x63 : ¬ ((s[i]'h).toNat : Int) = 63 := by omega
    rw [if_pos x32, if_neg x63, h32]
    rfl
  · have x32 : ¬ ((s[i]'h).toNat : Int) = 32 := fun hh => h32 ((byte_eq (c := 32) (k := 32) rfl).1 hh)
    have y32 : (s[i]'h == 32) = false := beq_eq_false_iff_ne.2 h32
    rw [if_neg x32, y32, Bool.false_or]
    by_cases h63 : s[i]'h = 63
    · have x63 := (byte_eq (b := s[i]'h) (c := 63) (k := 63) rfl).2 h63
      have y63 : (s[i]'h == 63) = true := beq_iff_eq.2 h63
      have y97 : decide (97 ≤ (s[i]'h).toNat) = false := decide_eq_false (by rw [h63]; decide)
      rw [if_pos x63, y63, y97, Bool.true_and, Bool.false_and, Bool.or_false]
      by_cases hi : 0 < i
      · have g0 : (i : Int) > 0 := by omega
        have e2 : wrap64 ((i : Int) - 1) = ((i - 1 : Nat) : Int) := w64n i (-1) (i - 1) (by omega) (by omega)
        have g1 : (0 : Int) ≤ ((i - 1 : Nat) : Int) := by omega
        have g2 : ((i - 1 : Nat) : Int) < (s.size : Int) := by omega
        have hb2 := bt_n s (i - 1) (by omega)
        have hpq : prevQ s i = (s[i - 1]'(by omega) == 63) := by
          unfold prevQ
          rw [dif_pos ⟨hi, by omega⟩]
        rw [if_pos g0, e2, if_pos g1, if_pos g2, hb2, hpq]
        by_cases hq : s[i - 1]'(by omega) = 63
        · rw [if_pos ((byte_eq (c := 63) (k := 63) rfl).2 hq), hq]
          rfl
        · rw [if_neg (fun hh => hq ((byte_eq (c := 63) (k := 63) rfl).1 hh)), beq_eq_false_iff_ne.2 hq]
          rfl
      · have g0 : ¬ (i : Int) > 0 := by omega
        have hpq : prevQ s i = false := by
          unfold prevQ
          rw [dif_neg (fun hh => hi hh.1)]
        rw [if_neg g0, hpq]
        rfl
    · have x63 : ¬ ((s[i]'h).toNat : Int) = 63 := fun hh => h63 ((byte_eq (c := 63) (k := 63) rfl).1 hh)
      have y63 : (s[i]'h == 63) = false := beq_eq_false_iff_ne.2 h63
      rw [if_neg x63, y63, Bool.false_and, Bool.false_or]
      by_cases h97 : 97 ≤ (s[i]'h).toNat
      · rw [if_neg (fun hh => ((int_nat_lt _).1 hh) h97), decide_eq_true h97, Bool.true_and]
        by_cases h122 : (s[i]'h).toNat ≤ 122
        · rw [if_neg (fun hh => ((int_nat_gt _).1 hh) h122), decide_eq_true h122, if_pos rfl]
        · rw [if_pos ((int_nat_gt _).2 h122), decide_eq_false h122, if_neg (by decide)]
      · rw [if_pos ((int_nat_lt _).2 h97), decide_eq_false h97, Bool.false_and, if_neg (by decide)]
theorem check_bad [Inhabited TabT] (a0 : Int) (s : ByteArray) (hs : s.size ≤ 1000) : ∀ (d i : Nat), s.size - i = d → goodL (prevQ s i) (s.data.toList.drop i) = false → Ev (fun k => laws_FnReplacedBack.l0 k a0 s (i : Int)) true := by
  intro d
  induction d with
  | zero =>
    intro i hd h
    rw [drop_end s i (by omega)] at h
    cases h
  | succ d ih =>
    intro i hd h
    have hlt : i < s.size := by omega
    have hst := check_step a0 s hs i hlt
    rw [drop_cons s i hlt, goodL] at h
    cases hg : (s[i]'hlt == 32 || (s[i]'hlt == 63 && !prevQ s i) || (decide (97 ≤ (s[i]'hlt).toNat) && decide ((s[i]'hlt).toNat ≤ 122))) with
    | false => exact Ev.step (f := fun _ => some true) (fun k => by rw [hst, hg, if_neg (by decide)]) (Ev.now _)
    | true =>
      rw [hg, Bool.true_and, ← prevQ_succ s i hlt] at h
      exact Ev.step (fun k => by rw [hst, hg, if_pos rfl]) (ih (i + 1) (by omega) h)
theorem check_good [Inhabited TabT] (a0 : Int) (s : ByteArray) (hs : s.size ≤ 1000) (V : Bool) (hend : Ev (fun k => (laws_form9.f a0).bind fun t121 => ((impl_Replaced.f t121 s).bind fun bt122 => (laws_FnReplacedBack.l1 k s bt122.1 bt122.2 (⟨#[]⟩ : ByteArray) 0))) V) :
    ∀ (d i : Nat), s.size - i = d → goodL (prevQ s i) (s.data.toList.drop i) = true → Ev (fun k => laws_FnReplacedBack.l0 k a0 s (i : Int)) V := by
  intro d
  induction d with
  | zero =>
    intro i hd h
    have c1 : ¬ (i : Int) < (s.size : Int) := by omega
    refine Ev.step (fun k => ?_) hend
    simp only [laws_FnReplacedBack.l0]
    rw [if_neg c1]
  | succ d ih =>
    intro i hd h
    have hlt : i < s.size := by omega
    have hst := check_step a0 s hs i hlt
    rw [drop_cons s i hlt, goodL, Bool.and_eq_true] at h
    obtain ⟨hg, h2⟩ := h
    rw [← prevQ_succ s i hlt] at h2
    exact Ev.step (fun k => by rw [hst, hg, if_pos rfl]) (ih (i + 1) (by omega) h2)
theorem head_byte (r : ByteArray) (i : Nat) (c : UInt8) (t : List UInt8) (h : r.data.toList.drop i = c :: t) : ∃ hlt : i < r.size, r[i]'hlt = c ∧ r.data.toList.drop (i + 1) = t := by
  have hlt : i < r.size := by
    rcases Nat.lt_or_ge i r.size with h2 | h2
    · exact h2
    · rw [drop_end r i h2] at h
      cases h
  rw [drop_cons r i hlt] at h
  injection h with h1 h2
  exact ⟨hlt, h1, h2⟩
/-- The loop over digits. -/
theorem digits_ev (s r : ByteArray) (hr : r.size ≤ 100000) (acc : ByteArray) (V : Bool) : ∀ (D rest : List UInt8) (x : Nat), r.data.toList.drop (x + 1) = D ++ rest → x + 1 ≤ r.size → (∀ c ∈ D, 48 ≤ c.toNat ∧ c.toNat ≤ 57) → (∀ c t, rest = c :: t → ¬ (48 ≤ c.toNat ∧ c.toNat ≤ 57)) →
    Ev (fun k => laws_FnReplacedBack.l1 k s r true acc ((x + 1 + D.length : Nat) : Int)) V → Ev (fun k => laws_FnReplacedBack.l2 k s r true acc (x : Int)) V
  | [], rest, x, h, hx, hD, hR, hv => by
    have e1 : wrap64 ((x : Int) + 1) = ((x + 1 : Nat) : Int) := w64n x 1 (x + 1) (by omega) (by omega)
    have c0 : (0 : Int) ≤ ((x + 1 : Nat) : Int) := by omega
    refine Ev.step (fun k => ?_) hv
    simp only [laws_FnReplacedBack.l2]
    rw [e1]
    cases rest with
    | nil =>
      have : r.size ≤ x + 1 := by
        have h2 := congrArg List.length h
        rw [List.length_drop, show r.data.toList.length = r.size from Array.length_toList] at h2
        simp at h2
        omega
      rw [if_neg (show ¬ ((x + 1 : Nat) : Int) < (r.size : Int) by omega)]
      rfl
    | cons c t =>
      obtain ⟨hlt, hc, _⟩ := head_byte r (x + 1) c t h
      have hnd := hR c t rfl
      have hb := bt_n r (x + 1) hlt
      rw [hc] at hb
      rw [if_pos (show ((x + 1 : Nat) : Int) < (r.size : Int) by omega), if_pos c0, hb]
      by_cases h48 : (c.toNat : Int) ≥ 48
      · rw [if_pos h48, if_neg (by omega)]
        rfl
      · rw [if_neg h48]
        rfl
  | c :: D, rest, x, h, hx, hD, hR, hv => by
    have e1 : wrap64 ((x : Int) + 1) = ((x + 1 : Nat) : Int) := w64n x 1 (x + 1) (by omega) (by omega)
    have c0 : (0 : Int) ≤ ((x + 1 : Nat) : Int) := by omega
    obtain ⟨hlt, hc, h2⟩ := head_byte r (x + 1) c (D ++ rest) h
    have hd := List.forall_mem_cons.1 hD
    have hb := bt_n r (x + 1) hlt
    rw [hc] at hb
    have hih := digits_ev s r hr acc V D rest (x + 1) h2 (by omega) hd.2 hR (by
      rw [List.length_cons] at hv
      rw [show x + 1 + 1 + D.length = x + 1 + (D.length + 1) by omega]
      exact hv)
    refine Ev.step (fun k => ?_) hih
    simp only [laws_FnReplacedBack.l2]
    rw [e1, if_pos (show ((x + 1 : Nat) : Int) < (r.size : Int) by omega), if_pos c0, hb, if_pos (by have := hd.1; omega), if_pos (by have := hd.1; omega)]
theorem good_head {q : Bool} {c : UInt8} {t : List UInt8} (h : goodL q (c :: t) = true) : (c = 32 ∨ (c = 63 ∧ q = false) ∨ (97 ≤ c.toNat ∧ c.toNat ≤ 122)) ∧ goodL (c == 63) t = true := by
  rw [goodL, Bool.and_eq_true, Bool.or_eq_true, Bool.or_eq_true, Bool.and_eq_true, Bool.and_eq_true, beq_iff_eq, beq_iff_eq, Bool.not_eq_true', decide_eq_true_eq, decide_eq_true_eq] at h
  refine ⟨?_, h.2⟩
  rcases h.1 with (h1 | h1) | h1
  · exact .inl h1
  · exact .inr (.inl h1)
  · exact .inr (.inr h1)
theorem copy_ev (s r : ByteArray) (hr : r.size ≤ 100000) (i : Nat) (c : UInt8) (acc rest : List UInt8) (hacc : acc.length ≤ 100000) (h : r.data.toList.drop i = c :: rest) (hc : c = 32 ∨ c = 63 ∨ 97 ≤ c.toNat) (V : Bool) (hn : Ev (fun k => laws_FnReplacedBack.l1 k s r true ⟨(acc ++ [c]).toArray⟩ ((i + 1 : Nat) : Int)) V) :
    Ev (fun k => laws_FnReplacedBack.l1 k s r true ⟨acc.toArray⟩ (i : Int)) V := by
  obtain ⟨hlt, hcc, _⟩ := head_byte r i c rest h
  have hb := bt_n r i hlt
  have ho := one_extract r i hlt
  rw [hcc] at hb ho
  have c1 : (i : Int) < (r.size : Int) := by omega
  have c0 : (0 : Int) ≤ (i : Int) := by omega
  have e1 : wrap64 ((i : Int) + 1) = ((i + 1 : Nat) : Int) := w64n i 1 (i + 1) (by omega) (by omega)
  have hcn : c.toNat = 32 ∨ c.toNat = 63 ∨ 97 ≤ c.toNat := by
    rcases hc with h | h | h
    · exact .inl (by rw [h]; rfl)
    · exact .inr (.inl (by rw [h]; rfl))
    · exact .inr (.inr h)
  have n36 : ¬ (c.toNat : Int) = 36 := by omega
  have n58 : ¬ (c.toNat : Int) = 58 := by omega
  have n64 : ((c.toNat : Int) == 64) = false := by
    rw [beq_eq_false_iff_ne]
    omega
  have d2 : (i : Int) ≤ ((i + 1 : Nat) : Int) := by omega
  have d3 : ((i + 1 : Nat) : Int) ≤ (r.size : Int) := by omega
  have d4 : (⟨acc.toArray⟩ : ByteArray).size + (⟨#[c]⟩ : ByteArray).size ≤ 9223372036854775807 := by
    show acc.length + 1 ≤ _
    omega
  refine Ev.step (f := fun k => laws_FnReplacedBack.j2 k s r true ⟨acc.toArray⟩ (i : Int) (c.toNat : Int) false) (fun k => ?_) (Ev.step (fun k => ?_) hn)
  · simp only [laws_FnReplacedBack.l1]
    rw [if_pos c1, if_pos c0, hb, if_neg n36, if_neg n58, n64]
  · simp only [laws_FnReplacedBack.j2]
    have e5 : ((i + 1 : Nat) : Int).toNat = i + 1 := Int.toNat_natCast _
    rw [if_neg (by decide), if_pos c0, e1, if_pos d2, if_pos d3, e5, Int.toNat_natCast, ho, if_pos d4]
    exact congrArg (fun t => laws_FnReplacedBack.l1 k s r true t ((i + 1 : Nat) : Int)) (cat_mk acc [c])
theorem sign_ev (s r : ByteArray) (hr : r.size ≤ 100000) (i : Nat) (P D acc rest : List UInt8) (hacc : acc.length ≤ 100000) (hP : P = [36] ∨ P = [58] ∨ P = [64, 112]) (h : r.data.toList.drop i = P ++ (D ++ rest)) (hD : ∀ c ∈ D, 48 ≤ c.toNat ∧ c.toNat ≤ 57) (hR : ∀ c t, rest = c :: t → ¬ (48 ≤ c.toNat ∧ c.toNat ≤ 57)) (V : Bool)
    (hn : Ev (fun k => laws_FnReplacedBack.l1 k s r true ⟨(acc ++ [63]).toArray⟩ ((i + P.length + D.length : Nat) : Int)) V) :
    Ev (fun k => laws_FnReplacedBack.l1 k s r true ⟨acc.toArray⟩ (i : Int)) V := by
  have d4 : (⟨acc.toArray⟩ : ByteArray).size + 1 ≤ 9223372036854775807 := by
    show acc.length + 1 ≤ _
    omega
  have scat : (⟨acc.toArray⟩ : ByteArray) ++ ⟨#[63]⟩ = ⟨(acc ++ [63]).toArray⟩ := cat_mk acc [63]
  have short : ∀ c : UInt8, (c = 36 ∨ c = 58) → P = [c] → Ev (fun k => laws_FnReplacedBack.l1 k s r true ⟨acc.toArray⟩ (i : Int)) V := by
    intro c hc hp
    rw [hp] at h hn
    obtain ⟨hlt, hcc, h2⟩ := head_byte r i c (D ++ rest) h
    have hb := bt_n r i hlt
    rw [hcc] at hb
    have c1 : (i : Int) < (r.size : Int) := by omega
    have c0 : (0 : Int) ≤ (i : Int) := by omega
    have hdg := digits_ev s r hr ⟨(acc ++ [63]).toArray⟩ V D rest i h2 (by omega) hD hR hn
    have hcn : (c.toNat : Int) = 36 ∨ (c.toNat : Int) = 58 := by
      rcases hc with h | h
      · exact .inl (by rw [h]; rfl)
      · exact .inr (by rw [h]; rfl)
    have n64 : ¬ (c.toNat : Int) = 64 := by omega
    refine Ev.step (f := fun k => laws_FnReplacedBack.j2 k s r true ⟨acc.toArray⟩ (i : Int) (c.toNat : Int) true) (fun k => ?_) (Ev.step (f := fun k => laws_FnReplacedBack.j3 k s r true ⟨(acc ++ [63]).toArray⟩ (i : Int)) (fun k => ?_) (Ev.step (fun k => ?_) hdg))
    · simp only [laws_FnReplacedBack.l1]
      rw [if_pos c1, if_pos c0, hb]
      by_cases h36 : (c.toNat : Int) = 36
      · rw [if_pos h36]
      · rw [if_neg h36, if_pos (by omega)]
    · simp only [laws_FnReplacedBack.j2]
      rw [if_pos trivial, if_pos d4, if_neg n64, scat]
    · simp only [laws_FnReplacedBack.j3]
  rcases hP with hp | hp | hp
  · exact short 36 (.inl rfl) hp
  · exact short 58 (.inr rfl) hp
  · rw [hp] at h hn
    obtain ⟨hlt, hcc, h2⟩ := head_byte r i 64 (112 :: (D ++ rest)) h
    obtain ⟨hlt2, _, h3⟩ := head_byte r (i + 1) 112 (D ++ rest) h2
    have hb := bt_n r i hlt
    rw [hcc] at hb
    have hb2 : bt r (i : Int) = 64 := hb
    have c1 : (i : Int) < (r.size : Int) := by omega
    have c0 : (0 : Int) ≤ (i : Int) := by omega
    have e1 : wrap64 ((i : Int) + 1) = ((i + 1 : Nat) : Int) := w64n i 1 (i + 1) (by omega) (by omega)
    have hdg := digits_ev s r hr ⟨(acc ++ [63]).toArray⟩ V D rest (i + 1) h3 (by omega) hD hR (by
      rw [show i + 1 + 1 + D.length = i + [64, 112].length + D.length by simp only [List.length_cons, List.length_nil]]
      exact hn)
    refine Ev.step (f := fun k => laws_FnReplacedBack.j2 k s r true ⟨acc.toArray⟩ (i : Int) 64 true) (fun k => ?_) (Ev.step (f := fun k => laws_FnReplacedBack.j3 k s r true ⟨(acc ++ [63]).toArray⟩ ((i + 1 : Nat) : Int)) (fun k => ?_) (Ev.step (fun k => ?_) hdg))
    · simp only [laws_FnReplacedBack.l1]
      rw [if_pos c1, if_pos c0, hb2, if_neg (by decide), if_neg (by decide)]
      rfl
    · simp only [laws_FnReplacedBack.j2]
      rw [if_pos trivial, if_pos d4, if_pos trivial, scat, e1]
    · simp only [laws_FnReplacedBack.j3]
theorem end_ev (s r : ByteArray) (i : Nat) (acc : List UInt8) (h : r.size ≤ i) (ha : acc = s.data.toList) : Ev (fun k => laws_FnReplacedBack.l1 k s r true ⟨acc.toArray⟩ (i : Int)) true := by
  have c1 : ¬ (i : Int) < (r.size : Int) := by omega
  refine Ev.step (f := fun _ => some true) (fun k => ?_) (Ev.now _)
  simp only [laws_FnReplacedBack.l1]
  rw [if_neg c1, if_pos trivial, ha]
  exact congrArg some (beq_self_eq_true _)
theorem back_copy (s : ByteArray) (hs : s.size ≤ 1000) : ∀ (t : List UInt8) (q : Bool) (i : Nat) (acc : List UInt8), s.data.toList.drop i = t → goodL q t = true → acc ++ t = s.data.toList → acc.length ≤ 100000 → Ev (fun k => laws_FnReplacedBack.l1 k s s true ⟨acc.toArray⟩ (i : Int)) true
  | [], q, i, acc, h, hg, ha, hl => by
    have : s.size ≤ i := by
      have h2 := congrArg List.length h
      rw [List.length_drop, show s.data.toList.length = s.size from Array.length_toList] at h2
      simp at h2
      omega
    exact end_ev s s i acc this (by rw [List.append_nil] at ha; exact ha)
  | c :: t, q, i, acc, h, hg, ha, hl => by
    obtain ⟨hc, hg2⟩ := good_head hg
    obtain ⟨hlt, _, h2⟩ := head_byte s i c t h
    have hal : acc.length + (c :: t).length = s.size := by
      have := congrArg List.length ha
      rw [List.length_append, show s.data.toList.length = s.size from Array.length_toList] at this
      exact this
    refine copy_ev s s (by omega) i c acc t hl h (by
      rcases hc with h | h | h
      · exact .inl h
      · exact .inr (.inl h.1)
      · exact .inr (.inr h.1)) true (back_copy s hs t _ (i + 1) (acc ++ [c]) h2 hg2 (by rw [List.append_assoc]; exact ha) (by rw [List.length_append]; simp only [List.length_cons, List.length_nil] at hal ⊢; omega))
theorem back_num [Inhabited TabT] (s r : ByteArray) (hs : s.size ≤ 1000) (hr : r.size ≤ 100000) (P : List UInt8) (hP : P = [36] ∨ P = [58] ∨ P = [64, 112]) : ∀ (t : List UInt8) (q : Bool) (n i : Nat) (acc : List UInt8), r.data.toList.drop i = numL P n t → goodL q t = true → acc ++ t = s.data.toList → Ev (fun k => laws_FnReplacedBack.l1 k s r true ⟨acc.toArray⟩ (i : Int)) true
  | [], q, n, i, acc, h, hg, ha => by
    rw [numL] at h
    have : r.size ≤ i := by
      have h2 := congrArg List.length h
      rw [List.length_drop, show r.data.toList.length = r.size from Array.length_toList] at h2
      simp at h2
      omega
    exact end_ev s r i acc this (by rw [List.append_nil] at ha; exact ha)
  | c :: t, q, n, i, acc, h, hg, ha => by
    obtain ⟨hc, hg2⟩ := good_head hg
    have hal : acc.length + (c :: t).length = s.size := by
      have := congrArg List.length ha
      rw [List.length_append, show s.data.toList.length = s.size from Array.length_toList] at this
      exact this
    have hal2 : acc.length ≤ 100000 := by omega
    have ha2 : (acc ++ [c]) ++ t = s.data.toList := by rw [List.append_assoc]; exact ha
    by_cases h63 : c = 63
    · subst h63
      have hhead : t.head? ≠ some 63 := by
        cases t with
        | nil => simp
        | cons d u =>
          obtain ⟨hd, _⟩ := good_head hg2
          intro e
          simp at e
          subst e
          rcases hd with h | h | h
          · cases h
          · exact absurd h.2 (by decide)
          · exact absurd h.1 (by decide)
      rw [numL_one P n t hhead, List.append_assoc] at h
      refine sign_ev s r hr i P (numD (n + 1)) acc (numL P (n + 1) t) hal2 hP h (numD_digits _) ?_ true ?_
      · intro c u hcu
        cases t with
        | nil =>
          rw [numL] at hcu
          cases hcu
        | cons d v =>
          obtain ⟨hd, _⟩ := good_head hg2
          have hd63 : d ≠ 63 := by simpa using hhead
          have := numL_pre P (n + 1) [d] v (by simpa using hd63)
          rw [List.singleton_append, List.singleton_append] at this
          rw [this] at hcu
          injection hcu with h1 _
          subst h1
          rcases hd with h | h | h
          · rw [h]
            decide
          · exact absurd h.1 hd63
          · omega
      · refine back_num s r hs hr P hP t _ (n + 1) _ (acc ++ [63]) ?_ hg2 ha2
        rw [← List.drop_drop, ← List.drop_drop, h, List.drop_left' rfl, List.drop_left' rfl]
    · have hpre := numL_pre P n [c] t (by simpa using h63)
      rw [List.singleton_append, List.singleton_append] at hpre
      rw [hpre] at h
      obtain ⟨hlt, _, h2⟩ := head_byte r i c _ h
      exact copy_ev s r hr i c acc _ hal2 h (by
        rcases hc with h | h | h
        · exact .inl h
        · exact absurd h.1 h63
        · exact .inr (.inr h.1)) true (back_num s r hs hr P hP t _ n (i + 1) (acc ++ [c]) h2 hg2 ha2)
theorem FnReplacedBack [Inhabited TabT] : laws_FnReplacedBack.Pure := by
  intro a0 s h0 _
  refine Ev.rounds (g := fun k => laws_FnReplacedBack.f k a0 s) ?_
  by_cases h1 : (s.size : Int) > 2147483647
  · exact Ev.congr (fun k => by simp only [laws_FnReplacedBack.f]; rw [if_pos h1]) (Ev.now true)
  by_cases h2 : (s.size : Int) > 1000
  · exact Ev.congr (fun k => by simp only [laws_FnReplacedBack.f]; rw [if_neg h1, if_pos h2]) (Ev.now true)
  obtain ⟨fm, hf, hr⟩ := form_is a0 h0
  have hs : s.size ≤ 1000 := by omega
  refine Ev.congr (f := fun k => laws_FnReplacedBack.l0 k a0 s ((0 : Nat) : Int)) (fun k => by simp only [laws_FnReplacedBack.f]; rw [if_neg h1, if_neg h2]; rfl) ?_
  have hp0 : prevQ s 0 = false := by
    unfold prevQ
    rw [dif_neg (by omega)]
  cases hg : goodL (prevQ s 0) (s.data.toList.drop 0) with
  | false => exact check_bad a0 s hs s.size 0 (by omega) hg
  | true =>
    refine check_good a0 s hs true ?_ s.size 0 (by omega) hg
    rw [hp0, List.drop_zero] at hg
    refine Ev.congr (f := fun k => laws_FnReplacedBack.l1 k s (repF fm s) true (⟨([] : List UInt8).toArray⟩ : ByteArray) ((0 : Nat) : Int)) (fun k => by rw [hf, Option.bind_some, impl_rep fm s (by omega) hr (mk_1000 s (by omega)), Option.bind_some]; rfl) ?_
    have hlen := rep_len fm s (by omega)
    have go : ∀ P : List UInt8, (P = [36] ∨ P = [58] ∨ P = [64, 112]) → signB fm = P → fm ≠ 1 → Ev (fun k => laws_FnReplacedBack.l1 k s (repF fm s) true (⟨([] : List UInt8).toArray⟩ : ByteArray) ((0 : Nat) : Int)) true := by
      intro P hP hsg h1
      refine back_num s (repF fm s) hs (by omega) P hP s.data.toList false 0 0 [] ?_ hg (by rw [List.nil_append])
      rw [List.drop_zero]
      unfold repF
      rw [if_neg h1, hsg]
    have : fm = 1 ∨ fm = 2 ∨ fm = 3 ∨ fm = 4 := by omega
    rcases this with rfl | rfl | rfl | rfl
    · exact back_copy s hs s.data.toList false 0 [] (by rw [List.drop_zero]) hg (by rw [List.nil_append]) (by simp)
    · exact go [36] (.inl rfl) rfl (by decide)
    · exact go [58] (.inr (.inl rfl)) rfl (by decide)
    · exact go [64, 112] (.inr (.inr rfl)) rfl (by decide)
end Go.Proofs.YtapnlnikeniomaaDoor.Pure

/-
  PLAIN: what sqlx's compileNamedQuery comes to, byte by byte; the parts of a text (names, and what stands for itself), and what it comes to over these.
-/
import Derived.Test.YtnmhoghmhglimaaDoorHRow
namespace Go.Proofs.YtnmhoghmhglimaaDoor.H
open Go.RowKit
set_option linter.unusedVariables false
set_option linter.unusedSimpArgs false

/-- What zzAllowed says of a byte. -/
def okB (b : UInt8) : Bool := decide (97 ≤ b.toNat ∧ b.toNat ≤ 122 ∨ 65 ≤ b.toNat ∧ b.toNat ≤ 90 ∨ 48 ≤ b.toNat ∧ b.toNat ≤ 57 ∨ b.toNat = 170 ∨ b.toNat = 181 ∨ b.toNat = 186 ∨ 192 ≤ b.toNat ∧ b.toNat ≠ 215 ∧ b.toNat ≠ 247)
def nameB (b : UInt8) : Bool := okB b || b == 95 || b == 46
/-- A byte of names, ASCII. -/
def isNm (b : UInt8) : Bool := decide (97 ≤ b.toNat ∧ b.toNat ≤ 122 ∨ 65 ≤ b.toNat ∧ b.toNat ≤ 90 ∨ 48 ≤ b.toNat ∧ b.toNat ≤ 57 ∨ b.toNat = 95 ∨ b.toNat = 46)
def markC (kind : Int) (n : Nat) (nm : List UInt8) : List UInt8 := if kind = 3 then 58 :: nm else if kind = 2 then 36 :: Lib.itoa (n : Int) else if kind = 4 then 64 :: 112 :: Lib.itoa (n : Int) else [63]
/-- The rest of a text, in a name or not, the name so far, the names and the text so far: the names and the text; none: refused. -/
def runC (kind : Int) : List UInt8 → Bool → List UInt8 → List (List UInt8) → List UInt8 → Option (List (List UInt8) × List UInt8)
  | [], _, _, nms, out => some (nms, out)
  | b :: t, inN, nm, nms, out =>
    if b = 58 then (if inN = true then (if nm = [] then runC kind t false nm nms (out ++ [58]) else none) else runC kind t true [] nms out)
    else if inN = true then
      (if b = 61 ∧ nm = [] then runC kind t false nm nms (out ++ [58, 61])
      else if nameB b = true ∧ t ≠ [] then runC kind t true (nm ++ [b]) nms out
      else if t = [] ∧ okB b = true then runC kind t false (nm ++ [b]) (nms ++ [nm ++ [b]]) (out ++ markC kind (nms.length + 1) (nm ++ [b]))
      else runC kind t false nm (nms ++ [nm]) (out ++ markC kind (nms.length + 1) nm ++ [b]))
    else runC kind t false nm nms (out ++ [b])

theorem isNm_name {b : UInt8} (h : isNm b = true) : nameB b = true ∧ b ≠ 58 ∧ b ≠ 61 := by
  have h1 := of_decide_eq_true h
  refine ⟨?_, fun h => by subst h; simp at h1, fun h => by subst h; simp at h1⟩
  unfold nameB okB
  rw [Bool.or_eq_true, Bool.or_eq_true, decide_eq_true_eq, beq_iff_eq, beq_iff_eq]
  rcases h1 with h1 | h1 | h1 | h1 | h1
  · exact .inl (.inl (.inl h1))
  · exact .inl (.inl (.inr (.inl h1)))
  · exact .inl (.inl (.inr (.inr (.inl h1))))
  · exact .inl (.inr (UInt8.toNat_inj.1 h1))
  · exact .inr (UInt8.toNat_inj.1 h1)
theorem isNm_ok {b : UInt8} (h : isNm b = true) (h1 : b ≠ 95) (h2 : b ≠ 46) : okB b = true := by
  have h3 := (isNm_name h).1
  unfold nameB at h3
  rw [Bool.or_eq_true, Bool.or_eq_true, beq_iff_eq, beq_iff_eq] at h3
  rcases h3 with (h3 | h3) | h3
  · exact h3
  · exact absurd h3 h1
  · exact absurd h3 h2
theorem name_isNm {b : UInt8} (h : isNm b = false) (h1 : b.toNat < 128) : nameB b = false ∧ okB b = false := by
  have h2 := of_decide_eq_false h
  have h3 : okB b = false := by
    unfold okB
    rw [decide_eq_false_iff_not]
    omega
  refine ⟨?_, h3⟩
  unfold nameB
  rw [h3, Bool.false_or, Bool.or_eq_false_iff, beq_eq_false_iff_ne, beq_eq_false_iff_ne]
  constructor
  · rintro rfl
    simp at h2
  · rintro rfl
    simp at h2
theorem run_text (kind : Int) (nm : List UInt8) (nms : List (List UInt8)) : ∀ (pre rest out : List UInt8), (∀ c ∈ pre, c ≠ 58) → runC kind (pre ++ rest) false nm nms out = runC kind rest false nm nms (out ++ pre)
  | [], rest, out, h => by rw [List.append_nil]; rfl
  | c :: t, rest, out, h => by
    have h1 := List.forall_mem_cons.1 h
    rw [List.cons_append, runC, if_neg h1.1, if_neg (by decide), run_text kind nm nms t rest _ h1.2, List.append_assoc]
    rfl
theorem run_name (kind : Int) (nms : List (List UInt8)) (out : List UInt8) : ∀ (pre rest nm : List UInt8), (∀ c ∈ pre, isNm c = true) → rest ≠ [] → runC kind (pre ++ rest) true nm nms out = runC kind rest true (nm ++ pre) nms out
  | [], rest, nm, h, hr => by rw [List.append_nil]; rfl
  | c :: t, rest, nm, h, hr => by
    have h1 := List.forall_mem_cons.1 h
    have h2 := isNm_name h1.1
    rw [List.cons_append, runC, if_neg h2.2.1, if_pos rfl, if_neg (fun h => h2.2.2 h.1), if_pos ⟨h2.1, by simp [hr]⟩, run_name kind nms out t rest _ h1.2 hr, List.append_assoc]
    rfl
theorem run_end (kind : Int) (nm : List UInt8) (nms : List (List UInt8)) (out : List UInt8) (e : UInt8) (v : List UInt8) (h1 : e ≠ 58) (h2 : isNm e = false) (h3 : e.toNat < 128) (h4 : ¬(e = 61 ∧ nm = [])) :
    runC kind (e :: v) true nm nms out = runC kind (e :: v) false nm (nms ++ [nm]) (out ++ markC kind (nms.length + 1) nm) := by
  have h5 := name_isNm h2 h3
  rw [runC, if_neg h1, if_pos rfl, if_neg h4, if_neg (by rw [h5.1]; simp), if_neg (by rw [h5.2]; simp)]
  rw [runC, if_neg h1, if_neg (by decide)]
theorem run_last (kind : Int) (nm : List UInt8) (nms : List (List UInt8)) (out : List UInt8) (b : UInt8) (h : isNm b = true) (h1 : b ≠ 95) (h2 : b ≠ 46) :
    runC kind [b] true nm nms out = some (nms ++ [nm ++ [b]], out ++ markC kind (nms.length + 1) (nm ++ [b])) := by
  have h5 := isNm_name h
  rw [runC, if_neg h5.2.1, if_pos rfl, if_neg (fun h => h5.2.2 h.1), if_neg (by simp), if_pos ⟨rfl, isNm_ok h h1 h2⟩]
  rfl

/-- What parts come to: the names and the text. -/
def foldB (kind : Int) : List (Bool × List UInt8) → List (List UInt8) → List UInt8 → List (List UInt8) × List UInt8
  | [], nms, out => (nms, out)
  | (true, x) :: t, nms, out => foldB kind t (nms ++ [x]) (out ++ markC kind (nms.length + 1) x)
  | (false, x) :: t, nms, out => foldB kind t nms (out ++ x)
/-- The parts of a text, f at most: behind acc; not refused; sure. -/
def bitsF : Nat → List UInt8 → Bool → List (Bool × List UInt8) → List (Bool × List UInt8) × Bool × Bool
  | 0, _, sure, acc => (acc, true, sure)
  | f + 1, [], sure, acc => (acc, true, sure)
  | f + 1, c :: t, sure, acc => if c = 58 then (match t with
      | [] => (acc, true, false)
      | d :: u => if d = 58 then bitsF f u sure (acc ++ [(false, [58])])
        else if d = 61 then bitsF f u (sure && !u.isEmpty) (acc ++ [(false, [58, 61])])
        else match (d :: u).dropWhile isNm with
          | [] => (acc ++ [(true, (d :: u).takeWhile isNm)], true, sure && ((d :: u).getLast? != some 95 && (d :: u).getLast? != some 46))
          | e :: v => if e = 58 then ([], false, sure) else bitsF f (e :: v) (if 128 ≤ e.toNat then false else if (d :: u).takeWhile isNm = [] ∧ v = [] then false else sure) (acc ++ [(true, (d :: u).takeWhile isNm)]))
      else bitsF f ((c :: t).dropWhile (· != 58)) sure (acc ++ [(false, (c :: t).takeWhile (· != 58))])

theorem tw_all (p : UInt8 → Bool) (l : List UInt8) : ∀ c ∈ l.takeWhile p, p c = true := fun c h => List.all_eq_true.1 (List.all_takeWhile) c h
theorem dw_head (p : UInt8 → Bool) : ∀ (l : List UInt8) (e : UInt8) (v : List UInt8), l.dropWhile p = e :: v → p e = false
  | c :: t, e, v, h => by
    rw [List.dropWhile_cons] at h
    by_cases hc : p c = true
    · rw [if_pos hc] at h
      exact dw_head p t e v h
    · rw [if_neg hc] at h
      injection h with h1 _
      rw [← h1]
      exact Bool.eq_false_iff.2 hc
theorem sure_stays : ∀ (f : Nat) (l : List UInt8) (acc : List (Bool × List UInt8)), (bitsF f l false acc).2.2 = false
  | 0, _, _ => rfl
  | f + 1, [], acc => rfl
  | f + 1, c :: t, acc => by
    rw [bitsF.eq_def]
    simp only []
    split
    · split
      · rfl
      · split
        · exact sure_stays f _ _
        · split
          · exact sure_stays f _ _
          · split
            · rfl
            · split
              · rfl
              · split
                · exact sure_stays f _ _
                · split
                  · exact sure_stays f _ _
                  · exact sure_stays f _ _
    · exact sure_stays f _ _
theorem run_bits : ∀ (f : Nat) (l : List UInt8) (sure : Bool) (acc : List (Bool × List UInt8)), l.length ≤ f → (bitsF f l sure acc).2.2 = true →
    ((bitsF f l sure acc).2.1 = true ∧ ∃ more, (bitsF f l sure acc).1 = acc ++ more ∧ ∀ kind nm nms out, runC kind l false nm nms out = some (foldB kind more nms out)) ∨
    ((bitsF f l sure acc).2.1 = false ∧ (bitsF f l sure acc).1 = [] ∧ ∀ kind nm nms out, runC kind l false nm nms out = none)
  | 0, l, sure, acc, hf, hs => by
    obtain rfl := List.length_eq_zero_iff.1 (Nat.le_zero.1 hf)
    exact .inl ⟨rfl, [], by rw [List.append_nil]; rfl, fun _ _ _ _ => rfl⟩
  | f + 1, [], sure, acc, hf, hs => .inl ⟨rfl, [], by rw [List.append_nil]; rfl, fun _ _ _ _ => rfl⟩
  | f + 1, c :: t, sure, acc, hf, hs => by
    have hst : ∀ (b : Bool) (m : List UInt8) (a : List (Bool × List UInt8)), (bitsF f m b a).2.2 = true → b = true := by
      intro b m a h
      cases b
      · rw [sure_stays] at h
        cases h
      · rfl
    rw [bitsF.eq_def] at hs ⊢
    simp only [] at hs ⊢
    · by_cases hc : c = 58
      · subst hc
        simp only [if_true] at hs ⊢
        split at hs
        · cases hs
        · rename_i d u
          by_cases hd : d = 58
          · subst hd
            simp only [if_true] at hs ⊢
            rcases run_bits f u sure _ (by simp at hf; omega) hs with ⟨h1, more, h2, h3⟩ | ⟨h1, h2, h3⟩
            · refine .inl ⟨h1, (false, [58]) :: more, by rw [h2, List.append_assoc]; rfl, fun kind nm nms out => ?_⟩
              rw [runC, if_pos rfl, if_neg (by decide), runC, if_pos rfl, if_pos rfl, if_pos rfl, h3]
              rfl
            · refine .inr ⟨h1, h2, fun kind nm nms out => ?_⟩
              rw [runC, if_pos rfl, if_neg (by decide), runC, if_pos rfl, if_pos rfl, if_pos rfl, h3]
          · rw [if_neg hd] at hs ⊢
            by_cases hd2 : d = 61
            · subst hd2
              rw [if_pos rfl] at hs ⊢
              rcases run_bits f u _ _ (by simp at hf; omega) hs with ⟨h1, more, h2, h3⟩ | ⟨h1, h2, h3⟩
              · refine .inl ⟨h1, (false, [58, 61]) :: more, by rw [h2, List.append_assoc]; rfl, fun kind nm nms out => ?_⟩
                rw [runC, if_pos rfl, if_neg (by decide), runC, if_neg (by decide), if_pos rfl, if_pos ⟨rfl, rfl⟩, h3]
                rfl
              · refine .inr ⟨h1, h2, fun kind nm nms out => ?_⟩
                rw [runC, if_pos rfl, if_neg (by decide), runC, if_neg (by decide), if_pos rfl, if_pos ⟨rfl, rfl⟩, h3]
            · rw [if_neg hd2] at hs ⊢
              have htd := List.takeWhile_append_dropWhile (p := isNm) (l := d :: u)
              have hta := tw_all isNm (d :: u)
              split at hs
              · rename_i hdw
                rw [hdw, List.append_nil] at htd
                rw [Bool.and_eq_true, Bool.and_eq_true, bne_iff_ne, bne_iff_ne] at hs
                obtain ⟨_, hl1, hl2⟩ := hs
                refine .inl ⟨rfl, [(true, d :: u)], by rw [htd], fun kind nm nms out => ?_⟩
                rw [htd] at hta
                rw [runC, if_pos rfl, if_neg (by decide)]
                have hne : (d :: u) ≠ [] := by simp
                have hsp := List.dropLast_concat_getLast hne
                rw [List.getLast?_eq_some_getLast hne] at hl1 hl2
                have hb := hta _ (List.getLast_mem hne)
                rw [← hsp, run_name kind nms out _ _ [] (fun c hc => hta c (List.dropLast_subset _ hc)) (by simp), List.nil_append, run_last kind _ nms out _ hb (fun h => hl1 (by rw [h])) (fun h => hl2 (by rw [h]))]
                rfl
              · rename_i e v hdw
                have he := dw_head isNm _ e v hdw
                rw [hdw] at htd
                by_cases he2 : e = 58
                · subst he2
                  rw [if_pos rfl] at hs ⊢
                  refine .inr ⟨rfl, rfl, fun kind nm nms out => ?_⟩
                  rw [runC, if_pos rfl, if_neg (by decide), ← htd, run_name kind nms out _ _ [] hta (by simp), List.nil_append, runC, if_pos rfl, if_pos rfl, if_neg]
                  intro h
                  rw [h] at htd
                  injection htd with h1 _
                  exact hd h1.symm
                · rw [if_neg he2] at hs ⊢
                  have hsu := hst _ _ _ hs
                  have h128 : ¬ 128 ≤ e.toNat := by
                    intro h
                    rw [if_pos h] at hsu
                    cases hsu
                  have hlen := congrArg List.length htd
                  rw [List.length_append] at hlen
                  have hlen2 : (e :: v).length ≤ f := by
                    simp only [List.length_cons] at hlen hf ⊢
                    omega
                  have hstep : ∀ kind nm nms out, runC kind (58 :: d :: u) false nm nms out = runC kind (e :: v) false ((d :: u).takeWhile isNm) (nms ++ [(d :: u).takeWhile isNm]) (out ++ markC kind (nms.length + 1) ((d :: u).takeWhile isNm)) := by
                    intro kind nm nms out
                    rw [runC, if_pos rfl, if_neg (by decide)]
                    conv => lhs; rw [← htd]
                    rw [run_name kind nms out _ _ [] hta (by simp), List.nil_append, run_end kind _ nms out e v he2 he (by omega)]
                    rintro ⟨h1, h2⟩
                    rw [h2] at htd
                    injection htd with h3 _
                    exact hd2 (h3.symm.trans h1)
                  rcases run_bits f (e :: v) _ _ hlen2 hs with ⟨h1, more, h2, h3⟩ | ⟨h1, h2, h3⟩
                  · refine .inl ⟨h1, (true, (d :: u).takeWhile isNm) :: more, by rw [h2, List.append_assoc]; rfl, fun kind nm nms out => ?_⟩
                    rw [hstep, h3]
                    rfl
                  · exact .inr ⟨h1, h2, fun kind nm nms out => by rw [hstep, h3]⟩
      · rw [if_neg hc] at hs ⊢
        have htd := List.takeWhile_append_dropWhile (p := (· != (58 : UInt8))) (l := c :: t)
        have hta := tw_all (· != (58 : UInt8)) (c :: t)
        have hlen : ((c :: t).dropWhile (· != (58 : UInt8))).length ≤ f := by
          rw [List.dropWhile_cons, if_pos (bne_iff_ne.2 hc)]
          exact Nat.le_trans (List.dropWhile_sublist _).length_le (by simp at hf; exact hf)
        have hstep : ∀ kind nm nms out, runC kind (c :: t) false nm nms out = runC kind ((c :: t).dropWhile (· != 58)) false nm nms (out ++ (c :: t).takeWhile (· != 58)) := by
          intro kind nm nms out
          conv => lhs; rw [← htd]
          exact run_text kind nm nms _ _ out (fun c hc => bne_iff_ne.1 (hta c hc))
        rcases run_bits f _ sure _ hlen hs with ⟨h1, more, h2, h3⟩ | ⟨h1, h2, h3⟩
        · refine .inl ⟨h1, (false, (c :: t).takeWhile (· != 58)) :: more, by rw [h2, List.append_assoc]; rfl, fun kind nm nms out => ?_⟩
          rw [hstep, h3]
          rfl
        · exact .inr ⟨h1, h2, fun kind nm nms out => by rw [hstep, h3]⟩

/-- The names among parts, and the text that they come to, n names ahead. -/
def nB : List (Bool × List UInt8) → List (List UInt8)
  | [] => []
  | (true, x) :: t => x :: nB t
  | (false, _) :: t => nB t
def tB (kind : Int) : List (Bool × List UInt8) → Nat → List UInt8
  | [], _ => []
  | (true, x) :: t, n => markC kind (n + 1) x ++ tB kind t (n + 1)
  | (false, x) :: t, n => x ++ tB kind t n
/-- Parts as they are written. -/
def flatB : List (Bool × List UInt8) → List UInt8
  | [] => []
  | (true, x) :: t => 58 :: (x ++ flatB t)
  | (false, x) :: t => x ++ flatB t
theorem foldB_is (kind : Int) : ∀ (l : List (Bool × List UInt8)) (nms : List (List UInt8)) (out : List UInt8), foldB kind l nms out = (nms ++ nB l, out ++ tB kind l nms.length)
  | [], nms, out => by simp [foldB, nB, tB]
  | (true, x) :: t, nms, out => by
    rw [foldB, foldB_is kind t]
    simp [nB, tB]
  | (false, x) :: t, nms, out => by
    rw [foldB, foldB_is kind t]
    simp [nB, tB]
theorem tB_named : ∀ (l : List (Bool × List UInt8)) (n : Nat), tB 3 l n = flatB l
  | [], n => rfl
  | (true, x) :: t, n => by
    rw [tB, tB_named t, flatB]
    rfl
  | (false, x) :: t, n => by rw [tB, tB_named t, flatB]
/-- No two colons side by side. -/
def one58 : List UInt8 → Bool
  | [] => true
  | [_] => true
  | a :: b :: t => !(a == 58 && b == 58) && one58 (b :: t)
theorem one58_tail {a : UInt8} {t : List UInt8} (h : one58 (a :: t) = true) : one58 t = true := by
  cases t with
  | nil => rfl
  | cons b t =>
    rw [one58, Bool.and_eq_true] at h
    exact h.2
theorem one58_drop : ∀ (a b : List UInt8), one58 (a ++ b) = true → one58 b = true
  | [], b, h => h
  | c :: t, b, h => one58_drop t b (one58_tail h)
theorem bits_all : ∀ (f : Nat) (l : List UInt8) (sure : Bool) (acc : List (Bool × List UInt8)), l.length ≤ f → (bitsF f l sure acc).2.2 = true → (bitsF f l sure acc).2.1 = true →
    ∃ more, (bitsF f l sure acc).1 = acc ++ more ∧ (∀ p ∈ more, ∀ c ∈ p.2, c ∈ l) ∧ (one58 l = true → flatB more = l)
  | 0, l, sure, acc, hf, hs, ho => by
    obtain rfl := List.length_eq_zero_iff.1 (Nat.le_zero.1 hf)
    exact ⟨[], by rw [List.append_nil]; rfl, by simp, fun _ => rfl⟩
  | f + 1, [], sure, acc, hf, hs, ho => ⟨[], by rw [List.append_nil]; rfl, by simp, fun _ => rfl⟩
  | f + 1, c :: t, sure, acc, hf, hs, ho => by
    have hst : ∀ (b : Bool) (m : List UInt8) (a : List (Bool × List UInt8)), (bitsF f m b a).2.2 = true → b = true := by
      intro b m a h
      cases b
      · rw [sure_stays] at h
        cases h
      · rfl
    rw [bitsF.eq_def] at hs ho ⊢
    simp only [] at hs ho ⊢
    by_cases hc : c = 58
    · subst hc
      simp only [if_true] at hs ho ⊢
      split at hs
      · cases hs
      · rename_i d u
        simp only [] at ho
        by_cases hd : d = 58
        · subst hd
          simp only [if_true] at hs ho ⊢
          obtain ⟨more, h2, h3, h4⟩ := bits_all f u sure _ (by simp at hf; omega) hs ho
          refine ⟨(false, [58]) :: more, by rw [h2, List.append_assoc]; rfl, ?_, ?_⟩
          · intro p hp c hc
            rcases List.mem_cons.1 hp with rfl | hp
            · rw [List.mem_singleton.1 hc]
              simp
            · exact List.mem_cons_of_mem _ (List.mem_cons_of_mem _ (h3 p hp c hc))
          · intro h
            simp [one58] at h
        · rw [if_neg hd] at hs ho ⊢
          by_cases hd2 : d = 61
          · subst hd2
            rw [if_pos rfl] at hs ho ⊢
            obtain ⟨more, h2, h3, h4⟩ := bits_all f u _ _ (by simp at hf; omega) hs ho
            refine ⟨(false, [58, 61]) :: more, by rw [h2, List.append_assoc]; rfl, ?_, ?_⟩
            · intro p hp c hc
              rcases List.mem_cons.1 hp with rfl | hp
              · rcases List.mem_cons.1 hc with rfl | hc
                · simp
                · rw [List.mem_singleton.1 hc]
                  simp
              · exact List.mem_cons_of_mem _ (List.mem_cons_of_mem _ (h3 p hp c hc))
            · intro h
              rw [flatB, h4 (one58_tail (one58_tail h))]
              rfl
          · rw [if_neg hd2] at hs ho ⊢
            have htd := List.takeWhile_append_dropWhile (p := isNm) (l := d :: u)
            split at hs
            · rename_i hdw
              rw [hdw, List.append_nil] at htd
              refine ⟨[(true, d :: u)], by rw [htd], ?_, ?_⟩
              · intro p hp c hc
                rw [List.mem_singleton.1 hp] at hc
                exact List.mem_cons_of_mem _ hc
              · intro h
                simp [flatB]
            · rename_i e v hdw
              rw [hdw] at htd ho
              simp only [] at ho
              by_cases he2 : e = 58
              · subst he2
                rw [if_pos rfl] at ho
                cases ho
              · rw [if_neg he2] at hs ho ⊢
                have hlen := congrArg List.length htd
                rw [List.length_append] at hlen
                have hlen2 : (e :: v).length ≤ f := by
                  simp only [List.length_cons] at hlen hf ⊢
                  omega
                obtain ⟨more, h2, h3, h4⟩ := bits_all f (e :: v) _ _ hlen2 hs ho
                have hin : ∀ c ∈ e :: v, c ∈ d :: u := fun c hc => by rw [← htd]; exact List.mem_append_right _ hc
                have hin2 : ∀ c ∈ (d :: u).takeWhile isNm, c ∈ d :: u := fun c hc => by rw [← htd]; exact List.mem_append_left _ hc
                refine ⟨(true, (d :: u).takeWhile isNm) :: more, by rw [h2, List.append_assoc]; rfl, ?_, ?_⟩
                · intro p hp c hc
                  rcases List.mem_cons.1 hp with rfl | hp
                  · exact List.mem_cons_of_mem _ (hin2 c hc)
                  · exact List.mem_cons_of_mem _ (hin c (h3 p hp c hc))
                · intro h
                  have h5 := one58_tail h
                  rw [← htd] at h5
                  rw [flatB, h4 (one58_drop _ _ h5), htd]
    · rw [if_neg hc] at hs ho ⊢
      have htd := List.takeWhile_append_dropWhile (p := (· != (58 : UInt8))) (l := c :: t)
      have hlen : ((c :: t).dropWhile (· != (58 : UInt8))).length ≤ f := by
        rw [List.dropWhile_cons, if_pos (bne_iff_ne.2 hc)]
        exact Nat.le_trans (List.dropWhile_sublist _).length_le (by simp at hf; exact hf)
      obtain ⟨more, h2, h3, h4⟩ := bits_all f _ sure _ hlen hs ho
      refine ⟨(false, (c :: t).takeWhile (· != 58)) :: more, by rw [h2, List.append_assoc]; rfl, ?_, ?_⟩
      · intro p hp c hc
        rcases List.mem_cons.1 hp with rfl | hp
        · rw [← htd]
          exact List.mem_append_left _ hc
        · rw [← htd]
          exact List.mem_append_right _ (h3 p hp c hc)
      · intro h
        rw [← htd] at h
        rw [flatB, h4 (one58_drop _ _ h), htd]
/-- What is refused for one kind, or not, is so for each. -/
theorem run_ok_kind : ∀ (l : List UInt8) (inN : Bool) (nm : List UInt8) (nms : List (List UInt8)) (k1 k2 : Int) (o1 o2 : List UInt8), (runC k1 l inN nm nms o1).map (·.1) = (runC k2 l inN nm nms o2).map (·.1)
  | [], _, _, _, _, _, _, _ => rfl
  | b :: t, inN, nm, nms, k1, k2, o1, o2 => by
    rw [runC, runC]
    split
    · split
      · split
        · exact run_ok_kind t _ _ _ _ _ _ _
        · rfl
      · exact run_ok_kind t _ _ _ _ _ _ _
    · split
      · split
        · exact run_ok_kind t _ _ _ _ _ _ _
        · split
          · exact run_ok_kind t _ _ _ _ _ _ _
          · split
            · exact run_ok_kind t _ _ _ _ _ _ _
            · exact run_ok_kind t _ _ _ _ _ _ _
      · exact run_ok_kind t _ _ _ _ _ _ _
/-- A text that is written of names and texts. -/
def wroteL : List (List UInt8 × List UInt8) → List UInt8
  | [] => []
  | (n, x) :: t => 58 :: (n ++ (x ++ wroteL t))
def wantL (kind : Int) : List (List UInt8 × List UInt8) → Nat → List UInt8
  | [], _ => []
  | (n, x) :: t, i => markC kind (i + 1) n ++ (x ++ wantL kind t (i + 1))
def IsGapL (x : List UInt8) : Prop := ∃ e v, x = e :: v ∧ isNm e = false ∧ e.toNat < 128 ∧ ∀ c ∈ x, c ≠ 58
theorem run_wrote (kind : Int) : ∀ (l : List (List UInt8 × List UInt8)) (nm : List UInt8) (nms : List (List UInt8)) (out : List UInt8), (∀ p ∈ l, p.1 ≠ [] ∧ (∀ c ∈ p.1, isNm c = true) ∧ IsGapL p.2) →
    runC kind (wroteL l) false nm nms out = some (nms ++ l.map (·.1), out ++ wantL kind l nms.length)
  | [], nm, nms, out, h => by
    rw [List.map_nil, List.append_nil]
    show some (nms, out) = some (nms, out ++ [])
    rw [List.append_nil]
  | (n, x) :: t, nm, nms, out, h => by
    obtain ⟨⟨h1, h2, e, v, rfl, h4, h5, h6⟩, ht⟩ := List.forall_mem_cons.1 h
    rw [wroteL, runC, if_pos rfl, if_neg (by decide), run_name kind nms out n _ [] h2 (by simp), List.nil_append, List.cons_append, run_end kind n nms out e _ (h6 e (List.mem_cons_self ..)) h4 h5 (fun h => h1 h.2), ← List.cons_append, run_text kind n _ (e :: v) _ _ h6, run_wrote kind t n _ _ ht]
    simp only [wantL, List.map_cons, List.length_append, List.length_cons, List.length_nil, List.append_assoc, List.cons_append, List.nil_append]
end Go.Proofs.YtnmhoghmhglimaaDoor.H

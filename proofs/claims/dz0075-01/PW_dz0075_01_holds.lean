import PyProof.Rows.All
import PySem.Builtin.Sre.Common
import Wide.All
import OpenK.AllK
import Wide.FinOn
import KE.KIntText
import PySem.Challenge.RW_dz0075_01
set_option Elab.async false
set_option linter.unusedVariables false

section
set_option maxRecDepth 100000
namespace Mine
open PySem PySem.Sre

def codeA : Array Nat := #[14, 4, 0, 1, 4294967295, 17, 0, 7, 14, 24, 10, 1, 4294967295, 13, 5, 22, 48, 57, 0, 1, 15, 17, 15, 13, 11, 9, 0, 26624, 2147483648, 0, 0, 0, 0, 0, 0, 15, 2, 0, 17, 1, 1]

/-- the machine at the start of an attempt at s -/
def stA (text : Array Nat) (lim s : Nat) (first : Bool) (a b : Option Nat) (seen : Seen) : M :=
  { code := codeA, text := text, lim := lim, start := s, lastStart := lim, pc := 5, pos := s, handed := s, outermost := first, marks := #[a, b],
    frames := [{ wait := .nextStart, pc := 5, pos := s, outermost := first }], weight := 1, seen := seen }

theorem forSearch_stA (text : Array Nat) (s : Nat) (h : s < text.size) :
    forSearch codeA text 1 s text.size false = stA text text.size s true none none (({} : Seen).add 14) := by
  unfold forSearch
  have h1 : (decide (s > text.size) || decide (text.size - s < (header codeA).1)) = false := by
    have : (header codeA).1 = 1 := rfl
    rw [this]; simp; omega
  simp only [h1]
  rfl

theorem forSearch_none (text : Array Nat) (s : Nat) (h : s = text.size) :
    (forSearch codeA text 1 s text.size false).outcome = none ∧ ((forSearch codeA text 1 s text.size false).runFor 4).outcome = some .failed := by
  subst h
  unfold forSearch
  have h1 : (decide (text.size > text.size) || decide (text.size - text.size < (header codeA).1)) = true := by
    have : (header codeA).1 = 1 := rfl
    rw [this]; simp
  simp only [h1]
  exact ⟨rfl, rfl⟩

def isSep (c : Nat) : Bool := c == 46 || c == 95 || c == 43 || c == 45

/-- behind MARK 0 and BRANCH: at REPEAT_ONE -/
def stB (text : Array Nat) (lim s : Nat) (first : Bool) (b : Option Nat) (seen : Seen) : M :=
  { code := codeA, text := text, lim := lim, start := s, lastStart := lim, pc := 9, pos := s, handed := s, outermost := first, marks := #[some s, b], lastmark := 0,
    frames := [{ wait := .nextBranch, pc := 8, pos := s, outermost := first, kept := { lastmark := 0 } }, { wait := .nextStart, pc := 5, pos := s, outermost := first }], weight := 2, seen := seen }

theorem step_AB (text : Array Nat) (lim s : Nat) (first : Bool) (a b : Option Nat) (seen : Seen) :
    ((stA text lim s first a b seen).step).step = stB text lim s first b ((seen.add 17).add 7) := rfl

def cnt (text : Array Nat) : (n p : Nat) → Nat
  | 0, _ => 0
  | n + 1, p => if Sre.isDigit (text.getD p 0) then cnt text n (p + 1) + 1 else 0

theorem acc_digit (c : Nat) (seen : Seen) : ∃ seen', accepts codeA 13 c seen = .ok (Sre.isDigit c, seen') := by
  have e : accepts codeA 13 c seen = if (decide (48 ≤ c) && decide (c ≤ 57)) = true then .ok (true, seen.add 22) else .ok (false, (seen.add 22).add 0) := rfl
  rw [e]
  unfold Sre.isDigit
  cases h : (decide (48 ≤ c) && decide (c ≤ 57)) with
  | true => exact ⟨_, by rw [if_pos rfl]⟩
  | false => exact ⟨_, by rw [if_neg (by decide)]⟩

theorem bits_sep : ∀ c, c < 256 → (codeA.getD (25 + (1 + c / 32)) 0).testBit (c % 32) = isSep c := by decide +kernel

theorem acc_sep (c : Nat) (seen : Seen) : ∃ seen', accepts codeA 23 c seen = .ok (isSep c, seen') := by
  have e : accepts codeA 23 c seen = if (decide (c < 256) && (codeA.getD (25 + (1 + c / 32)) 0).testBit (c % 32)) = true then .ok (true, seen.add 9) else .ok (false, (seen.add 9).add 0) := rfl
  have e2 : (decide (c < 256) && (codeA.getD (25 + (1 + c / 32)) 0).testBit (c % 32)) = isSep c := by
    by_cases hc : c < 256
    · rw [bits_sep c hc]; simp [hc]
    · simp only [hc, decide_false, Bool.false_and]
      unfold isSep
      symm
      simp only [Bool.or_eq_false_iff, beq_eq_false_iff_ne]
      omega
  rw [e, e2]
  cases isSep c with
  | true => exact ⟨_, by rw [if_pos rfl]⟩
  | false => exact ⟨_, by rw [if_neg (by decide)]⟩

theorem run_cnt (text : Array Nat) : ∀ (n p found : Nat) (seen : Seen), ∃ seen', Sre.run codeA text 13 n p found seen = .ok (found + cnt text n p, seen')
  | 0, p, found, seen => ⟨seen, rfl⟩
  | n + 1, p, found, seen => by
    obtain ⟨s1, h1⟩ := acc_digit (text.getD p 0) seen
    unfold Sre.run cnt
    rw [h1]
    cases hd : Sre.isDigit (text.getD p 0) with
    | true =>
      obtain ⟨s2, h2⟩ := run_cnt text n (p + 1) (found + 1) s1
      refine ⟨s2, ?_⟩
      show Sre.run codeA text 13 n (p + 1) (found + 1) s1 = _
      rw [h2, if_pos rfl]
      congr 2; omega
    | false => exact ⟨s1, rfl⟩

/-- REPEAT_ONE has taken n figures -/
def stC (text : Array Nat) (lim s n : Nat) (first : Bool) (b : Option Nat) (seen : Seen) : M :=
  { code := codeA, text := text, lim := lim, start := s, lastStart := lim, pc := 20, pos := s + n, handed := s + n, outermost := first, marks := #[some s, b], lastmark := 0,
    frames := [{ wait := .giveBack, pc := 9, pos := s + n, outermost := first, count := n, kept := { lastmark := 0 } },
      { wait := .nextBranch, pc := 8, pos := s, outermost := first, kept := { lastmark := 0 } }, { wait := .nextStart, pc := 5, pos := s, outermost := first }], weight := 3, seen := seen }

/-- the second branch is begun -/
def stE (text : Array Nat) (lim s : Nat) (first : Bool) (b : Option Nat) (seen : Seen) : M :=
  { code := codeA, text := text, lim := lim, start := s, lastStart := lim, pc := 23, pos := s, handed := s, outermost := first, marks := #[some s, b], lastmark := 0,
    frames := [{ wait := .nextBranch, pc := 22, pos := s, outermost := first, kept := { lastmark := 0 } }, { wait := .nextStart, pc := 5, pos := s, outermost := first }], weight := 2, seen := seen }

/-- matched -/
def stF (text : Array Nat) (lim s e : Nat) (first : Bool) (seen : Seen) : M :=
  { code := codeA, text := text, lim := lim, start := s, lastStart := lim, pc := 5, pos := s, handed := e, outermost := first, marks := #[some s, some e], lastmark := 1, lastindex := 1,
    frames := [], weight := 0, answer := some true, outcome := some .matched, seen := seen }

theorem step_C (text : Array Nat) (lim s n : Nat) (first : Bool) (b : Option Nat) (seen : Seen) :
    (stC text lim s n first b seen).step.step.step.step.step.step.step = stF text lim s (s + n) first (((seen.add 15).add 17).add 1) := by
  have e1 : (stC text lim s n first b seen).step = { stC text lim s n first b (seen.add 15) with pc := 38 } := rfl
  have e2 : ({ stC text lim s n first b (seen.add 15) with pc := 38 } : M).step = { stC text lim s n first (some (s + n)) ((seen.add 15).add 17) with pc := 40, lastmark := 1, lastindex := 1 } := by with_unfolding_all rfl
  have e3 : ({ stC text lim s n first (some (s + n)) ((seen.add 15).add 17) with pc := 40, lastmark := 1, lastindex := 1 } : M).step = { stC text lim s n first (some (s + n)) (((seen.add 15).add 17).add 1) with pc := 40, lastmark := 1, lastindex := 1, answer := some true } := by
    cases first <;> rfl
  rw [e1, e2, e3]
  rfl

theorem exec_B (text : Array Nat) (lim s : Nat) (first : Bool) (b : Option Nat) (seen : Seen) :
    (stB text lim s first b seen).step =
      if (1 : Int) > (lim : Int) - s then { stB text lim s first b (seen.add 24) with answer := some false } else
      match Sre.run codeA text 13 (min 4294967295 ((lim : Int) - s).toNat) s 0 ((seen.add 24).add 13) with
      | .error why => (stB text lim s first b (seen.add 24)).stick why
      | .ok (n, seen) => if n < 1 then { stB text lim s first b seen with answer := some false } else
          ({ stB text lim s first b seen with pos := s + n }).afterRun .giveBack n { lastmark := 0 } := rfl

theorem step_B_digit (text : Array Nat) (lim s : Nat) (first : Bool) (b : Option Nat) (seen : Seen) (hs : s < lim) (hl : lim < 4294967295) (hd : Sre.isDigit (text.getD s 0) = true) :
    ∃ seen', (stB text lim s first b seen).step = stC text lim s (cnt text (lim - s) s) first b seen' ∧ 1 ≤ cnt text (lim - s) s := by
  rw [exec_B, if_neg (by omega)]
  have e : min 4294967295 ((lim : Int) - s).toNat = lim - s := by omega
  rw [e]
  obtain ⟨s', h'⟩ := run_cnt text (lim - s) s 0 ((seen.add 24).add 13)
  rw [h']
  have hc : 1 ≤ cnt text (lim - s) s := by
    obtain ⟨k, hk⟩ : ∃ k, lim - s = k + 1 := ⟨lim - s - 1, by omega⟩
    rw [hk]
    unfold cnt
    rw [if_pos hd]
    omega
  refine ⟨s', ?_, hc⟩
  dsimp only
  rw [Nat.zero_add, if_neg (by omega)]
  rfl

theorem step_B_not (text : Array Nat) (lim s : Nat) (first : Bool) (b : Option Nat) (seen : Seen) (hd : s < lim → Sre.isDigit (text.getD s 0) = false) :
    ∃ seen', (stB text lim s first b seen).step.step = stE text lim s first b seen' := by
  rw [exec_B]
  by_cases hs : s < lim
  · rw [if_neg (by omega)]
    obtain ⟨s', h'⟩ := run_cnt text (min 4294967295 ((lim : Int) - s).toNat) s 0 ((seen.add 24).add 13)
    rw [h']
    have hc : cnt text (min 4294967295 ((lim : Int) - s).toNat) s = 0 := by
      obtain ⟨k, hk⟩ : ∃ k, min 4294967295 ((lim : Int) - s).toNat = k + 1 := ⟨min 4294967295 ((lim : Int) - s).toNat - 1, by omega⟩
      rw [hk]
      unfold cnt
      rw [hd hs]
      rfl
    rw [hc]
    exact ⟨s', rfl⟩
  · rw [if_pos (by omega)]
    exact ⟨_, rfl⟩

theorem exec_E (text : Array Nat) (lim s : Nat) (first : Bool) (b : Option Nat) (seen : Seen) :
    (stE text lim s first b seen).step =
      if s ≥ lim then { stE text lim s first b (seen.add 13) with answer := some false } else
      match accepts codeA 23 (text.getD s 0) (seen.add 13) with
      | .error why => (stE text lim s first b (seen.add 13)).stick why
      | .ok (false, seen) => { stE text lim s first b seen with answer := some false }
      | .ok (true, seen) => { stE text lim s first b seen with pc := 35, pos := s + 1 } := rfl

theorem step_E_sep (text : Array Nat) (lim s : Nat) (first : Bool) (b : Option Nat) (seen : Seen) (hs : s < lim) (hd : isSep (text.getD s 0) = true) :
    ∃ seen', (stE text lim s first b seen).step.step.step.step.step.step.step = stF text lim s (s + 1) first seen' := by
  rw [exec_E, if_neg (by omega)]
  obtain ⟨seen', h'⟩ := acc_sep (text.getD s 0) (seen.add 13)
  rw [h', hd]
  dsimp only
  have e1 : ({ stE text lim s first b seen' with pc := 35, pos := s + 1 } : M).step = { stE text lim s first b (seen'.add 15) with pc := 38, pos := s + 1 } := rfl
  have e2 : ({ stE text lim s first b (seen'.add 15) with pc := 38, pos := s + 1 } : M).step = { stE text lim s first (some (s + 1)) ((seen'.add 15).add 17) with pc := 40, pos := s + 1, lastmark := 1, lastindex := 1 } := by with_unfolding_all rfl
  have e3 : ({ stE text lim s first (some (s + 1)) ((seen'.add 15).add 17) with pc := 40, pos := s + 1, lastmark := 1, lastindex := 1 } : M).step = { stE text lim s first (some (s + 1)) (((seen'.add 15).add 17).add 1) with pc := 40, pos := s + 1, handed := s + 1, lastmark := 1, lastindex := 1, answer := some true } := by
    cases first <;> rfl
  rw [e1, e2, e3]
  exact ⟨((seen'.add 15).add 17).add 1, rfl⟩

theorem step_E_false (text : Array Nat) (lim s : Nat) (first : Bool) (b : Option Nat) (seen : Seen) (hd : s < lim → isSep (text.getD s 0) = false) :
    ∃ seen', (stE text lim s first b seen).step = { stE text lim s first b seen' with answer := some false } := by
  rw [exec_E]
  by_cases hs : s < lim
  · rw [if_neg (by omega)]
    obtain ⟨seen', h'⟩ := acc_sep (text.getD s 0) (seen.add 13)
    rw [h', hd hs]
    exact ⟨seen', rfl⟩
  · rw [if_pos (by omega)]
    exact ⟨_, rfl⟩

theorem step_G (text : Array Nat) (lim s : Nat) (first : Bool) (b : Option Nat) (seen : Seen) :
    ({ stE text lim s first b seen with answer := some false } : M).step.step =
      if s < lim then stA text lim (s + 1) false (some s) b seen else
        { stA text lim s first (some s) b seen with frames := [], weight := 0, answer := some false, lastmark := 0 } := by
  have e1 : ({ stE text lim s first b seen with answer := some false } : M).step = { stE text lim s first b seen with answer := some false, pc := 22, weight := 1, frames := [{ wait := .nextStart, pc := 5, pos := s, outermost := first }] } := rfl
  rw [e1]
  have e2 : ({ stE text lim s first b seen with answer := some false, pc := 22, weight := 1, frames := [{ wait := .nextStart, pc := 5, pos := s, outermost := first }] } : M).step =
      if s < lim then stA text lim (s + 1) false (some s) b seen else { stA text lim s first (some s) b seen with frames := [], weight := 0, answer := some false, lastmark := 0 } := rfl
  exact e2
end Mine
end

section
set_option maxRecDepth 100000
set_option linter.unusedSimpArgs false
namespace Mine
open PySem PySem.Sre

def it : Nat → M → M
  | 0, m => m
  | n + 1, m => it n m.step

theorem step_done (m : M) (h : m.outcome.isSome = true) : m.step = m := by unfold M.step; rw [if_pos h]
theorem it_done (n : Nat) (m : M) (h : m.outcome.isSome = true) : it n m = m := by
  induction n with
  | zero => rfl
  | succ n ih => rw [it, step_done m h, ih]
theorem runFor_it (n : Nat) : ∀ m : M, m.runFor n = it n m := by
  induction n with
  | zero => intro m; rfl
  | succ n ih =>
    intro m
    unfold M.runFor it
    by_cases h : m.outcome.isSome = true
    · rw [if_pos h, step_done m h, it_done n m h]
    · rw [if_neg h, ih]
theorem it_add (a b : Nat) : ∀ m : M, it (a + b) m = it b (it a m) := by
  induction a with
  | zero => intro m; rw [Nat.zero_add]; rfl
  | succ a ih => intro m; rw [Nat.succ_add]; exact ih m.step

theorem it_one (m : M) : it 1 m = m.step := rfl
theorem it_two (m : M) : it 2 m = m.step.step := rfl

def isW (c : Nat) : Bool := !Sre.isDigit c && !isSep c

def nextTok (l : List Nat) : List Nat × Option (List Nat × List Nat) :=
  (l.takeWhile isW, match l.dropWhile isW with
    | [] => none
    | c :: r => if Sre.isDigit c then some (c :: r.takeWhile Sre.isDigit, r.dropWhile Sre.isDigit) else some ([c], r))

theorem isW_of {c : Nat} (hd : Sre.isDigit c = false) (hp : isSep c = false) : isW c = true := by unfold isW; rw [hd, hp]; rfl
theorem nextTok_nil : nextTok [] = ([], none) := rfl
theorem nextTok_digit {c : Nat} {r : List Nat} (hd : Sre.isDigit c = true) : nextTok (c :: r) = ([], some (c :: r.takeWhile Sre.isDigit, r.dropWhile Sre.isDigit)) := by
  have hw : isW c = false := by unfold isW; rw [hd]; rfl
  simp [nextTok, List.takeWhile_cons, List.dropWhile_cons, hw, hd]
theorem nextTok_sep {c : Nat} {r : List Nat} (hd : Sre.isDigit c = false) (hp : isSep c = true) : nextTok (c :: r) = ([], some ([c], r)) := by
  have hw : isW c = false := by unfold isW; rw [hp]; simp
  simp [nextTok, List.takeWhile_cons, List.dropWhile_cons, hw, hd]
theorem nextTok_w {c : Nat} {r : List Nat} (hw : isW c = true) : nextTok (c :: r) = (c :: (nextTok r).1, (nextTok r).2) := by
  simp [nextTok, List.takeWhile_cons, List.dropWhile_cons, hw]

theorem drop_getD {text : Array Nat} {s c : Nat} {r : List Nat} (h : text.toList.drop s = c :: r) : text.getD s 0 = c ∧ s < text.size ∧ text.toList.drop (s + 1) = r := by
  have hlt : s < text.toList.length := by
    rcases Nat.lt_or_ge s text.toList.length with h' | h'
    · exact h'
    · rw [List.drop_of_length_le h'] at h; cases h
  have e := List.drop_eq_getElem_cons hlt
  rw [h] at e
  have e1 := (List.cons.inj e).1
  have e2 := (List.cons.inj e).2
  refine ⟨?_, by simpa using hlt, e2.symm⟩
  have : s < text.size := by simpa using hlt
  simp only [Array.getD, this, dif_pos]
  rw [e1]
  rfl

theorem cnt_take (text : Array Nat) : ∀ (n s : Nat), s + n = text.size → cnt text n s = ((text.toList.drop s).takeWhile Sre.isDigit).length
  | 0, s, h => by
    have : text.toList.drop s = [] := List.drop_of_length_le (by simp; omega)
    rw [this]; rfl
  | n + 1, s, h => by
    have hlt : s < text.toList.length := by simp; omega
    have e := List.drop_eq_getElem_cons hlt
    obtain ⟨h1, _, _⟩ := drop_getD e
    unfold cnt
    rw [e, h1, List.takeWhile_cons, cnt_take text n (s + 1) (by omega)]
    split <;> rfl

/-- what a search ends in -/
def Ends (text : Array Nat) (s n : Nat) (m : M) : Prop :=
  match nextTok (text.toList.drop s) with
  | (_, none) => (it n m).outcome = some .failed
  | (w, some (t, _)) => ∃ first seen, it n m = stF text text.size (s + w.length) (s + w.length + t.length) first seen

theorem search_stA (text : Array Nat) (hl : text.size < 4294967295) : ∀ (l : List Nat) (s : Nat) (first : Bool) (a b : Option Nat) (seen : Seen), text.toList.drop s = l → s ≤ text.size →
    ∃ n, n ≤ 7 * l.length + 11 ∧ Ends text s n (stA text text.size s first a b seen)
  | [], s, first, a, b, seen, e, hle => by
    have hs : s = text.size := by
      have := List.drop_eq_nil_iff.mp e
      simp at this; omega
    refine ⟨8, by simp, ?_⟩
    unfold Ends
    rw [e]
    show (it 8 _).outcome = _
    rw [show (8 : Nat) = 2 + (2 + (1 + (2 + 1))) from rfl, it_add]
    have e1 : it 2 (stA text text.size s first a b seen) = stB text text.size s first b ((seen.add 17).add 7) := step_AB text text.size s first a b seen
    rw [e1, it_add]
    obtain ⟨s2, e2⟩ := step_B_not text text.size s first b ((seen.add 17).add 7) (fun h => absurd h (by omega))
    rw [show it 2 (stB text text.size s first b ((seen.add 17).add 7)) = _ from e2, it_add]
    obtain ⟨s3, e3⟩ := step_E_false text text.size s first b s2 (fun h => absurd h (by omega))
    rw [show it 1 (stE text text.size s first b s2) = _ from e3, it_add]
    have e4 := step_G text text.size s first b s3
    rw [if_neg (by omega)] at e4
    rw [it_two, e4]
    rfl
  | c :: r, s, first, a, b, seen, e, hle => by
    obtain ⟨hc, hs, hr⟩ := drop_getD e
    have e1 : it 2 (stA text text.size s first a b seen) = stB text text.size s first b ((seen.add 17).add 7) := step_AB text text.size s first a b seen
    cases hd : Sre.isDigit c with
    | true =>
      refine ⟨10, by simp, ?_⟩
      obtain ⟨s2, e2, hn⟩ := step_B_digit text text.size s first b ((seen.add 17).add 7) hs hl (by rw [hc]; exact hd)
      have hcnt := cnt_take text (text.size - s) s (by omega)
      unfold Ends
      rw [e, nextTok_digit hd]
      refine ⟨first, ((s2.add 15).add 17).add 1, ?_⟩
      rw [show (10 : Nat) = 2 + (1 + 7) from rfl, it_add, e1, it_add, it_one, e2]
      rw [show it 7 (stC text text.size s (cnt text (text.size - s) s) first b s2) = _ from step_C text text.size s (cnt text (text.size - s) s) first b s2]
      rw [hcnt, e, List.takeWhile_cons, hd]
      rfl
    | false =>
      obtain ⟨s2, e2⟩ := step_B_not text text.size s first b ((seen.add 17).add 7) (fun _ => by rw [hc]; exact hd)
      cases hp : isSep c with
      | true =>
        refine ⟨11, by simp, ?_⟩
        obtain ⟨s3, e3⟩ := step_E_sep text text.size s first b s2 hs (by rw [hc]; exact hp)
        unfold Ends
        rw [e, nextTok_sep hd hp]
        refine ⟨first, s3, ?_⟩
        rw [show (11 : Nat) = 2 + (2 + 7) from rfl, it_add, e1, it_add, show it 2 (stB text text.size s first b ((seen.add 17).add 7)) = _ from e2]
        exact e3
      | false =>
        have hw : isW c = true := by unfold isW; rw [hd, hp]; rfl
        obtain ⟨s3, e3⟩ := step_E_false text text.size s first b s2 (fun _ => by rw [hc]; exact hp)
        have e4 := step_G text text.size s first b s3
        rw [if_pos hs] at e4
        obtain ⟨n, hn, hE⟩ := search_stA text hl r (s + 1) false (some s) b s3 hr hs
        refine ⟨2 + (2 + (1 + (2 + n))), by simp; omega, ?_⟩
        have key : it (2 + (2 + (1 + (2 + n)))) (stA text text.size s first a b seen) = it n (stA text text.size (s + 1) false (some s) b s3) := by
          rw [it_add, e1, it_add, show it 2 (stB text text.size s first b ((seen.add 17).add 7)) = _ from e2, it_add, show it 1 (stE text text.size s first b s2) = _ from e3, it_add, it_two, e4]
        unfold Ends at hE ⊢
        rw [key, e, nextTok_w hw]
        rw [hr] at hE
        generalize nextTok r = q at hE ⊢
        obtain ⟨w, o⟩ := q
        cases o with
        | none => exact hE
        | some p =>
          obtain ⟨t, rr⟩ := p
          obtain ⟨f, sn, h⟩ := hE
          refine ⟨f, sn, ?_⟩
          rw [h]
          simp only [List.length_cons]
          congr 1 <;> omega

theorem search_ends (text : Array Nat) (hl : text.size < 4294967295) (s : Nat) (hs : s ≤ text.size) : ∃ n, n ≤ 7 * text.size + 11 ∧ Ends text s n (forSearch codeA text 1 s text.size false) := by
  rcases Nat.lt_or_ge s text.size with h | h
  · rw [forSearch_stA text s h]
    obtain ⟨n, hn, hE⟩ := search_stA text hl _ s true none none (({} : Seen).add 14) rfl hs
    refine ⟨n, ?_, hE⟩
    simp at hn
    omega
  · have e : s = text.size := by omega
    refine ⟨4, by omega, ?_⟩
    unfold Ends
    have : text.toList.drop s = [] := List.drop_of_length_le (by simp; omega)
    rw [this]
    have := (forSearch_none text s e).2
    rw [runFor_it] at this
    exact this
end Mine
end

section
open PySem PySem.W PyProof.Rows PySem.Calls PySem.Builtin PySem.Builtin.Re
set_option maxRecDepth 100000
set_option maxHeartbeats 1000000
namespace Mine
namespace PF
theorem slot_split : Slot "re.Pattern" "split" "re.Pattern.split" :=
  .of (owner := "re.Pattern") (n := "split") (by rw [typeLookup_type, builtinLookup_eq_fast]; kernel_rfl) (by decide +kernel) (by decide +kernel) (by decide +kernel)
    (by first | exact .inl (by decide +kernel) | exact .inr (by decide +kernel)) (by rw [isSubtype_type]; kernel_rfl)
theorem entry_split : entryFor table "re.Pattern.split" = some Builtin.«re.Pattern.split» := entryFor_of_tree (by kernel_rfl)
theorem args_split (a b : Value) : argsOk "re.Pattern.split" ⟨[a, b], []⟩ := by unfold argsOk; kernel_rfl
theorem type_split : typeOf (.builtin "re.Pattern.split") = pure (.type "method_descriptor") := by show builtinType _ = _; rw [builtinType_eq_fast]; kernel_rfl
theorem plain_pat : PlainAttrs "re.Pattern" := ⟨⟨"object.__getattribute__", by rw [typeLookup_type, builtinLookup_eq_fast]; kernel_rfl, by decide +kernel⟩, by rw [typeLookup_type, builtinLookup_eq_fast]; kernel_rfl⟩
end PF

section
variable {prog : Program} {w : World} {A : Around} {E : Value → Shared → Prop} {s : Shared}

theorem drive : ∀ (k turns : Nat) (m : Sre.M) {Q : Sre.M → Shared → Prop}, k < turns → (it (4 * k + 4) m).outcome.isSome = true → Q (it (4 * k + 4) m) s →
    wpAny (model prog w) A (reDrive turns m) Q E s := by
  intro k
  induction k with
  | zero =>
    intro turns m Q hk ho hQ
    obtain ⟨t, rfl⟩ : ∃ t, turns = t + 1 := ⟨turns - 1, by omega⟩
    unfold reDrive reTurnSteps
    dsimp only
    rw [runFor_it, if_pos ho]
    exact wpAny_pure hQ
  | succ k ih =>
    intro turns m Q hk ho hQ
    obtain ⟨t, rfl⟩ : ∃ t, turns = t + 1 := ⟨turns - 1, by omega⟩
    unfold reDrive reTurnSteps
    dsimp only
    rw [runFor_it]
    have e : 4 * (k + 1) + 4 = 4 + (4 * k + 4) := by omega
    rw [e, it_add] at ho hQ
    by_cases h : (it 4 m).outcome.isSome = true
    · rw [if_pos h]
      rw [it_done _ _ h] at hQ
      exact wpAny_pure hQ
    · rw [if_neg h]
      exact wpAny_bind (wpAny_rule (ih t _ (by omega) ho hQ))

theorem forRules {c : Nat → Bool} {g : Nat → String} : ∀ (L : List Nat) {Q : PUnit → Shared → Prop}, Q () s →
    wpAny (model prog w) A (forIn L PUnit.unit fun i (_ : PUnit) => (if c i = true then do rule (g i); pure (ForInStep.yield PUnit.unit) else pure (ForInStep.yield PUnit.unit) : Sem (ForInStep PUnit))) Q E s
  | [], Q, h => wpAny_pure h
  | i :: L, Q, h => by
    rw [List.forIn_cons]
    refine wpAny_bind ?_
    split
    · exact wpAny_bind (wpAny_rule (wpAny_pure (forRules L h)))
    · exact wpAny_pure (forRules L h)

theorem runToEnd {m m' : Sre.M} {n : Nat} {Q : Option Sre.M → Shared → Prop} (hn : n < 2 ^ 60) (e : it n m = m') (ho : m'.outcome.isSome = true)
    (hQ : match m'.outcome with | some .matched => Q (some m') s | some .failed => Q none s | _ => False) : wpAny (model prog w) A (reRunToEnd m) Q E s := by
  have e' : it (4 * n + 4) m = m' := by
    rw [show 4 * n + 4 = n + (3 * n + 4) from by omega, it_add, e, it_done _ _ ho]
  unfold reRunToEnd
  refine wpAny_bind (drive n _ m (Nat.lt_trans hn (by decide)) (by rw [e']; exact ho) ?_)
  rw [e']
  refine wpAny_bind (forRules _ ?_)
  revert hQ
  cases m'.outcome with
  | none => exact False.elim
  | some o => cases o with
    | matched => exact fun h => wpAny_pure h
    | failed => exact fun h => wpAny_pure h
    | stuck _ => exact False.elim

def tgt (x : Str) (t : Tok) : ReTarget := { pattern := .ref 36, string := .str x t, code := codeA, text := x.cps, kind := 0, groups := 1, pos := 0, lim := x.cps.size }

theorem nextFound_none {x : Str} {t : Tok} {st : Nat} {wd : List Nat} {Q : Option Sre.M → Shared → Prop} (hx : x.cps.size ≤ 100000) (hst : st ≤ x.cps.size) (hn : nextTok (x.cps.toList.drop st) = (wd, none))
    (hQ : Q none s) : wpAny (model prog w) A (reNextFound (tgt x t) st false) Q E s := by
  obtain ⟨n, hle, hE⟩ := search_ends x.cps (by omega) st hst
  unfold Ends at hE
  rw [hn] at hE
  have hE' : (it n (Sre.forSearch (tgt x t).code (tgt x t).text (tgt x t).groups st (tgt x t).lim false)).outcome = some .failed := hE
  exact runToEnd (Nat.lt_of_le_of_lt hle (by omega)) rfl (by rw [hE']; rfl) (by rw [hE']; exact hQ)
theorem nextFound_some {x : Str} {t : Tok} {st : Nat} {wd tk r : List Nat} {Q : Option Sre.M → Shared → Prop} (hx : x.cps.size ≤ 100000) (hst : st ≤ x.cps.size) (hn : nextTok (x.cps.toList.drop st) = (wd, some (tk, r)))
    (hQ : ∀ first seen, Q (some (stF x.cps x.cps.size (st + wd.length) (st + wd.length + tk.length) first seen)) s) : wpAny (model prog w) A (reNextFound (tgt x t) st false) Q E s := by
  obtain ⟨n, hle, hE⟩ := search_ends x.cps (by omega) st hst
  unfold Ends at hE
  rw [hn] at hE
  obtain ⟨f, sn, e⟩ := hE
  exact runToEnd (Nat.lt_of_le_of_lt hle (by omega)) e rfl (hQ f sn)

def bodyS (t : ReTarget) (_ : Nat) (st : Array Value × Nat × Nat × Bool × Int × Bool) : Sem (ForInStep (Array Value × Nat × Nat × Bool × Int × Bool)) :=
  if (!st.2.2.2.2.2) = true then do
    let o ← if ((0 : Int) != 0 && decide (st.2.2.2.2.1 ≥ 0)) = true then pure none else reNextFound t st.2.1 st.2.2.2.1
    match o with
    | none => pure (ForInStep.yield (st.1, st.2.1, st.2.2.1, st.2.2.2.1, st.2.2.2.2.1, true))
    | some m => do
      let a ← reSlice t.text t.kind st.2.2.1 m.start
      let b ← forIn (List.range t.groups) (st.1.push a) fun g c => do
        let d ← reMachineGroup t m (g + 1) (pure Value.none)
        pure (ForInStep.yield (c.push d))
      pure (ForInStep.yield (b, m.handed, m.handed, m.handed == m.start, st.2.2.2.2.1 + 1, st.2.2.2.2.2))
  else pure (ForInStep.yield (st.1, st.2.1, st.2.2.1, st.2.2.2.1, st.2.2.2.2.1, st.2.2.2.2.2))

theorem reTarget_eq {x : Str} {t : Tok} {Q : ReTarget → Shared → Prop} {o36 o35 : Obj} (h36 : s.heap.get? 36 = some o36) (h35 : s.heap.get? 35 = some o35)
    (d36 : ∃ p f, o36.data = .fields #[p, f, .int 1 0, .none, .none, .ref 35, .int 0 0])
    (d35 : ∃ n, o35.data = .seq (codeA.map fun (c : Nat) => Value.int c 0) n)
    (hQ : Q (tgt x t) s) : wpAny (model prog w) A (reWholeTarget (.ref 36) (.str x t)) Q E s := by
  obtain ⟨p, f, d36⟩ := d36
  obtain ⟨n, d35⟩ := d35
  unfold reWholeTarget
  refine wpAny_bind (wpAny_fieldsOf h36 d36 ?_)
  refine wpAny_bind (wpAny_pure ?_)
  refine wpAny_bind (wpAny_pure ?_)
  refine wpAny_bind (wpAny_bind (wpAny_seqItems h35 d35 ?_))
  have hc : Array.map (fun (x : Int) => x.toNat) (Array.map reRawOf ((some (Array.map (fun (c : Nat) => Value.int (c : Int) 0) codeA)).getD #[])) = codeA := by decide +kernel
  refine wpAny_pure (wpAny_pure ?_)
  rw [hc]
  exact hQ

theorem named_eq (x : Str) (t : Tok) : reNamed "re.Pattern.split" "split" ["string", "maxsplit"] 1 [Value.str x t] [] = pure [some (Value.str x t), none] := by with_unfolding_all rfl
end
end Mine
end

section
open PySem PySem.W PyProof.Rows PySem.Calls PySem.Builtin PySem.Builtin.Re
set_option maxRecDepth 100000
set_option maxHeartbeats 1000000
namespace Mine

def splitF : Nat → List Nat → List (List Nat)
  | 0, l => [l]
  | n + 1, l => match nextTok l with
    | (w, none) => [w]
    | (w, some (t, r)) => w :: t :: splitF n r
def mkS (l : List Nat) : Str := ⟨l.toArray⟩

theorem nextTok_none {l wd : List Nat} (h : nextTok l = (wd, none)) : wd = l := by
  unfold nextTok at h
  have h1 := congrArg Prod.fst h
  have h2 := congrArg Prod.snd h
  dsimp only at h1 h2
  cases hd : l.dropWhile isW with
  | nil =>
    rw [← h1]
    have := List.takeWhile_append_dropWhile (p := isW) (l := l)
    rw [hd, List.append_nil] at this
    exact this
  | cons c r => rw [hd] at h2; dsimp only at h2; split at h2 <;> cases h2
theorem nextTok_some {l wd tk r : List Nat} (h : nextTok l = (wd, some (tk, r))) : l = wd ++ (tk ++ r) ∧ 1 ≤ tk.length := by
  unfold nextTok at h
  have h1 := congrArg Prod.fst h
  have h2 := congrArg Prod.snd h
  dsimp only at h1 h2
  have e := List.takeWhile_append_dropWhile (p := isW) (l := l)
  cases hd : l.dropWhile isW with
  | nil => rw [hd] at h2; cases h2
  | cons c r' =>
    rw [hd] at h2 e
    dsimp only at h2
    rw [h1] at e
    split at h2
    · have h3 := Option.some.inj h2
      have h4 := congrArg Prod.fst h3
      have h5 := congrArg Prod.snd h3
      dsimp only at h4 h5
      refine ⟨?_, by rw [← h4]; simp⟩
      rw [← h4, ← h5, ← e]
      simp
    · have h3 := Option.some.inj h2
      have h4 := congrArg Prod.fst h3
      have h5 := congrArg Prod.snd h3
      dsimp only at h4 h5
      refine ⟨?_, by rw [← h4]; simp⟩
      rw [← h4, ← h5, ← e]
      simp

theorem splitF_length : ∀ (n : Nat) (l : List Nat), (splitF n l).length ≤ 2 * n + 1
  | 0, l => by simp [splitF]
  | n + 1, l => by
    unfold splitF
    split
    · simp
    · rename_i r _
      have := splitF_length n r
      simp; omega

theorem ext_of {x : Str} {b : Nat} {l r : List Nat} (h : x.cps.toList.drop b = l ++ r) : (⟨x.cps.extract b (b + l.length)⟩ : Str) = mkS l := by
  unfold mkS
  congr 1
  apply Array.toList_inj.mp
  rw [Array.toList_extract, List.extract_eq_take_drop, h]
  simp

section
variable {prog : Program} {w : World} {A : Around} {E : Value → Shared → Prop}

theorem overLoop {t : ReTarget} {a : Array Value} {b c : Nat} {d : Bool} {e : Int} {s : Shared} {Q : _ → Shared → Prop} : ∀ (L : List Nat), Q (a, b, c, d, e, true) s →
    wpAny (model prog w) A (forIn L (a, b, c, d, e, true) (bodyS t)) Q E s
  | [], h => wpAny_pure h
  | i :: L, h => by
    rw [List.forIn_cons]
    exact wpAny_bind (wpAny_pure (overLoop L h))

theorem loopS {x : Str} {t : Tok} (hx : x.cps.size ≤ 100000) : ∀ (n : Nat) (L : List Nat) (out : Array Value) (st : Nat) (c : Int) (s : Shared) {Q : _ → Shared → Prop},
    (x.cps.toList.drop st).length ≤ n → st ≤ x.cps.size → n < L.length →
    (∀ vs ws st' c' tk, StrsAre vs (ws.map mkS) → st' ≤ x.cps.size → ws ++ [x.cps.toList.drop st'] = splitF n (x.cps.toList.drop st) → Q (out ++ vs.toArray, st', st', false, c', true) { s with toks := tk }) →
    wpAny (model prog w) A (forIn L (out, st, st, false, c, false) (bodyS (tgt x t))) Q E s := by
  intro n
  induction n with
  | zero =>
    intro L out st c s Q hl hst hL hQ
    obtain ⟨i, L, rfl⟩ : ∃ i L', L = i :: L' := by cases L with | nil => cases hL | cons i L' => exact ⟨i, L', rfl⟩
    have e : x.cps.toList.drop st = [] := List.length_eq_zero_iff.mp (by omega)
    rw [List.forIn_cons]
    refine wpAny_bind ?_
    refine wpAny_bind (nextFound_none (wd := []) hx hst (by rw [e]; rfl) ?_)
    refine wpAny_pure (overLoop L ?_)
    have := hQ [] [] st c s.toks .nil hst (by rw [e]; rfl)
    simpa using this
  | succ n ih =>
    intro L out st c s Q hl hst hL hQ
    obtain ⟨i, L, rfl⟩ : ∃ i L', L = i :: L' := by cases L with | nil => cases hL | cons i L' => exact ⟨i, L', rfl⟩
    rw [List.forIn_cons]
    refine wpAny_bind ?_
    cases hn : nextTok (x.cps.toList.drop st) with
    | mk wd o => cases o with
      | none =>
        refine wpAny_bind (nextFound_none hx hst hn ?_)
        refine wpAny_pure (overLoop L ?_)
        have := hQ [] [] st c s.toks .nil hst (by unfold splitF; rw [hn, nextTok_none hn]; rfl)
        simpa using this
      | some p =>
        obtain ⟨tk, r⟩ := p
        obtain ⟨e, htk⟩ := nextTok_some hn
        have hlen : (x.cps.toList.drop st).length = x.cps.size - st := by simp
        have hle : wd.length + (tk.length + r.length) = x.cps.size - st := by rw [← hlen, e]; simp
        refine wpAny_bind (nextFound_some hx hst hn fun first seen => ?_)
        have e1 : (⟨x.cps.extract st (st + wd.length)⟩ : Str) = mkS wd := ext_of e
        have ed : x.cps.toList.drop (st + wd.length) = tk ++ r := by rw [← List.drop_drop, e]; simp
        have e2 : (⟨x.cps.extract (st + wd.length) (st + wd.length + tk.length)⟩ : Str) = mkS tk := ext_of ed
        have er : x.cps.toList.drop (st + wd.length + tk.length) = r := by rw [← List.drop_drop, ed]; simp
        have l1 : (mkS wd).length ≤ sizeLine := by
          show wd.toArray.size ≤ sizeLine
          rw [sizeLine_eq]; simp; omega
        have l2 : (mkS tk).length ≤ sizeLine := by
          show tk.toArray.size ≤ sizeLine
          rw [sizeLine_eq]; simp; omega
        refine wpAny_bind ?_
        show wpAny _ A (mkStr ⟨x.cps.extract st (st + wd.length)⟩) _ E s
        rw [e1]
        refine wpAny_mkStr ?_ l1
        refine wpAny_bind ?_
        refine wpAny_bind (wpAny_bind ?_)
        show wpAny _ A (if st + wd.length + tk.length < st + wd.length then _ else mkStr ⟨x.cps.extract (st + wd.length) (st + wd.length + tk.length)⟩) _ E _
        rw [if_neg (by omega), e2]
        refine wpAny_mkStr ?_ l2
        refine wpAny_pure (wpAny_pure (wpAny_pure ?_))
        have hne : (st + wd.length + tk.length == st + wd.length) = false := by
          rw [beq_eq_false_iff_ne]; omega
        show wpAny _ A (forIn L ((out.push (.str (mkS wd) s.toks)).push (.str (mkS tk) (s.toks + 1)), st + wd.length + tk.length, st + wd.length + tk.length, (st + wd.length + tk.length == st + wd.length), c + 1, false) (bodyS (tgt x t))) Q E { s with toks := s.toks + 1 + 1 }
        rw [hne]
        refine ih L _ (st + wd.length + tk.length) (c + 1) _ (by rw [er]; omega) (by omega) (by simp at hL; omega) ?_
        intro vs ws st' c' tk' hvs hst' hw
        have := hQ (.str (mkS wd) s.toks :: .str (mkS tk) (s.toks + 1) :: vs) (wd :: tk :: ws) st' c' tk' (.cons _ _ (.cons _ _ hvs)) hst' (by
          unfold splitF
          rw [hn]
          dsimp only
          rw [← er, ← hw]
          rfl)
        have ea : out ++ (Value.str (mkS wd) s.toks :: Value.str (mkS tk) (s.toks + 1) :: vs).toArray = (out.push (.str (mkS wd) s.toks)).push (.str (mkS tk) (s.toks + 1)) ++ vs.toArray := by
          apply Array.toList_inj.mp
          simp
        rw [ea] at this
        exact this

theorem split_call {s : Shared} {x : Str} {t : Tok} {Q : Value → Shared → Prop} {o36 o35 : Obj} (h36 : s.heap.get? 36 = some o36) (c36 : o36.cls = .type "re.Pattern") (h35 : s.heap.get? 35 = some o35)
    (d36 : ∃ p f, o36.data = .fields #[p, f, .int 1 0, .none, .none, .ref 35, .int 0 0])
    (d35 : ∃ n, o35.data = .seq (codeA.map fun (c : Nat) => Value.int c 0) n) (hx : x.cps.size ≤ 100000)
    (hQ : ∀ vs tk, StrsAre vs ((splitF x.cps.size x.cps.toList).map mkS) → Q (.ref s.heap.objs.size) { s with heap := s.heap.push { cls := .type "list", data := .seq vs.toArray }, toks := tk }) :
    wpAny (model prog w) A (call (.builtin "re.Pattern.split") [.ref 36, .str x t]) Q E s := by
  have hT : s.TypeIs (.ref 36) "re.Pattern" := ⟨o36, h36, c36⟩
  refine call_meets (S := fun _ R s' => s' = s ∧ ∀ vs tk, StrsAre vs ((splitF x.cps.size x.cps.toList).map mkS) → R (.ok (.ret (.ref s.heap.objs.size))) { s with heap := s.heap.push { cls := .type "list", data := .seq vs.toArray }, toks := tk })
    PF.slot_split hT PF.entry_split (PF.args_split _ _) (.of_wp ?_) ⟨rfl, fun vs tk h => hQ vs tk h⟩
  rintro prog w A R _ ⟨rfl, hR⟩
  unfold Builtin.«re.Pattern.split»
  dsimp only
  rw [named_eq]
  refine wpAny_bind (wpAny_pure ?_)
  refine wpAny_bind (wpAny_pure ?_)
  refine wpAny_bind (reTarget_eq h36 h35 d36 d35 ?_)
  refine wpAny_bind ?_
  show wpAny _ _ (forIn (List.range (2 * x.cps.size + 3)) (#[], 0, 0, false, 0, false) (bodyS (tgt x t))) _ _ _
  refine loopS hx x.cps.size _ #[] 0 0 _ (by simp) (by omega) (by simp; omega) ?_
  intro vs ws st' c' tk hvs hst' hw
  dsimp only
  rw [if_neg (by simp)]
  refine wpAny_bind ?_
  have e : (⟨x.cps.extract st' x.cps.size⟩ : Str) = mkS (x.cps.toList.drop st') := by
    have := ext_of (x := x) (b := st') (l := x.cps.toList.drop st') (r := []) (by simp)
    rw [← this]
    congr 2
    simp; omega
  show wpAny _ _ (mkStr ⟨x.cps.extract st' x.cps.size⟩) _ _ _
  rw [e]
  refine wpAny_mkStr ?_ (by
    show (x.cps.toList.drop st').toArray.size ≤ sizeLine
    rw [sizeLine_eq]; simp; omega)
  have hall : StrsAre (vs ++ [.str (mkS (x.cps.toList.drop st')) tk]) ((splitF x.cps.size x.cps.toList).map mkS) := by
    rw [show x.cps.toList = x.cps.toList.drop 0 from rfl, ← hw, List.map_append]
    exact hvs.append' (.cons _ _ .nil)
  have hlen := splitF_length x.cps.size x.cps.toList
  refine wpAny_bind (wpAny_newList ?_ ?_)
  · refine wpAny_pure ⟨_, rfl, ?_⟩
    have := hR _ (tk + 1) hall
    have ea : ((#[] ++ vs.toArray).push (Value.str (mkS (x.cps.toList.drop st')) tk)).toList.toArray = (vs ++ [Value.str (mkS (x.cps.toList.drop st')) tk]).toArray := by simp
    rw [ea]
    exact this
  · have h1 := hall.length
    rw [List.length_map] at h1
    rw [sizeLine_eq]
    simp at h1 ⊢
    omega
end
end Mine
end

section
open PySem PySem.W PyProof.Rows PySem.Calls
set_option maxRecDepth 100000
namespace Mine
open Sem (wp)

/-- the claim's caller lies below -/
def ClB (Γ : Ctx) : Prop := (Γ.below.map (·.1)).any Code.isCaller = true
/-- the claim's caller is on the stack -/
def Cl (Γ : Ctx) : Prop := (((Γ.code, (default : Pos)) :: Γ.below).map (·.1)).any Code.isCaller = true

def wpC {α : Type} (M : Model) (A : Around) (t : Sem α) (Q : α → Shared → Prop) (E : Value → Shared → Prop) (s : Shared) : Prop :=
  ∀ Γ p, Γ.In A → Cl Γ → wp M Γ t (fun a _ s' => Q a s') (fun e _ s' => E e s') p s
def codeC (M : Model) (A : Around) (c : Code) (R : Result → Shared → Prop) (s : Shared) : Prop :=
  ∀ Γ p, Γ.code = c → Γ.Below A → ClB Γ → wpCode M Γ R p s

theorem ClB.cl {Γ : Ctx} (h : ClB Γ) : Cl Γ := by
  unfold ClB at h
  unfold Cl
  rw [List.map_cons, List.any_cons, h, Bool.or_true]
theorem Cl.enter {Γ : Ctx} (h : Cl Γ) (c : Code) (hd : Option Value) (p : Pos) : ClB (Γ.enter c hd p) := h

section
variable {α β : Type} {M : Model} {A : Around} {E : Value → Shared → Prop} {s : Shared}
theorem wpC_of {t : Sem α} {Q : α → Shared → Prop} (h : wpAny M A t Q E s) : wpC M A t Q E s := fun Γ p hΓ _ => h Γ p hΓ
theorem codeC_of {c : Code} {R : Result → Shared → Prop} (h : codeAny M A c R s) : codeC M A c R s := fun Γ p hc hΓ _ => h Γ p hc hΓ
theorem wpC_pure {a : α} {Q : α → Shared → Prop} (h : Q a s) : wpC M A (pure a) Q E s := fun _ _ _ _ => h
theorem wpC_mono {t : Sem α} {Q Q' : α → Shared → Prop} {E' : Value → Shared → Prop} (h : wpC M A t Q E s) (hQ : ∀ a s, Q a s → Q' a s) (hE : ∀ e s, E e s → E' e s) : wpC M A t Q' E' s :=
  fun Γ p hΓ hC => Sem.wp_mono M Γ t (fun a _ s => hQ a s) (fun e _ s => hE e s) p s (h Γ p hΓ hC)
theorem wpC_bind {m : Sem α} {f : α → Sem β} {Q : β → Shared → Prop} (h : wpC M A m (fun a s' => wpC M A (f a) Q E s') E s) : wpC M A (m >>= f) Q E s := fun Γ p hΓ hC => by
  rw [Sem.wp_bind']
  exact Sem.wp_mono M Γ m (fun a p' s' h' => h' Γ p' hΓ hC) (fun _ _ _ h' => h') p s (h Γ p hΓ hC)
/-- the first part by the library, the rest under the claim -/
theorem wpC_bindA {m : Sem α} {f : α → Sem β} {Q : β → Shared → Prop} (h : wpAny M A m (fun a s' => wpC M A (f a) Q E s') E s) : wpC M A (m >>= f) Q E s := wpC_bind (wpC_of h)
theorem wpC_onRaise {m : Sem α} {k : Value → Sem Unit} {Q : α → Shared → Prop} (h : wpC M A m Q (fun e s' => wpC M A (k e) (fun _ s'' => E e s'') E s') s) : wpC M A (m.onRaise k) Q E s := fun Γ p hΓ hC => by
  rw [Sem.wp_onRaise]
  exact Sem.wp_mono M Γ m (fun _ _ _ h' => h') (fun e p' s' h' => h' Γ p' hΓ hC) p s (h Γ p hΓ hC)
theorem wpC_attempt {m : Sem α} {Q : Except Value α → Shared → Prop} (h : wpC M A m (fun a => Q (.ok a)) (fun e => Q (.error e)) s) : wpC M A m.attempt Q E s := fun Γ p hΓ hC => by
  rw [Sem.wp_attempt]; exact h Γ p hΓ hC
theorem wpC_tryCatch {m : Sem α} {k : Value → Sem α} {Q : α → Shared → Prop} (h : wpC M A m Q (fun e s' => wpC M A (k e) Q E s') s) : wpC M A (tryCatch m k) Q E s := fun Γ p hΓ hC => by
  rw [Sem.wp_tryCatch']
  exact Sem.wp_mono M Γ m (fun _ _ _ h' => h') (fun e p' s' h' => h' Γ p' hΓ hC) p s (h Γ p hΓ hC)
theorem wpC_holding {vs : List Value} {m : Sem α} {Q : α → Shared → Prop} (h : wpC M A m Q E s) : wpC M A (holding vs m) Q E s := fun Γ p hΓ hC => by
  rw [Sem.wp_holding]; exact h Γ p hΓ hC
theorem wpC_keep {vs : List Value} {m : Sem α} {Q : α → Shared → Prop} (h : wpC M A m Q E s) : wpC M A (m.keep vs) Q E s := fun Γ p hΓ hC => by
  rw [Sem.wp_keep]; exact h Γ p hΓ hC
theorem wpC_standAt {pos : Pos} {Q : Unit → Shared → Prop} (h : Q () s) : wpC M A (standAt pos) Q E s := fun _ _ _ _ => h
theorem wpC_run {c : Code} {h : Option Value} {Q : Flow → Shared → Prop} (hc : codeC M (A.mark h) c (fun r s' => match r with | .ok f => Q f s' | .error e => E e s') s) (hnb : h ≠ some byPass := by intro x; cases x) :
    wpC M A (run c h) Q E s := fun Γ p hΓ hC => by rw [Sem.wp_run]; exact hc _ p rfl (hΓ.enter c h p hnb) (hC.enter c h p)
theorem wpC_call {f : Value} {pos : List Value} {kw : List (Str × Value)} {Q : Value → Shared → Prop}
    (hc : codeC M A (.call f ⟨pos, kw⟩) (fun r s' => match r with | .ok (.ret v) => Q v s' | .ok _ => False | .error e => E e s') s) : wpC M A (call f pos kw) Q E s := fun Γ p hΓ hC => by
  show wp M Γ (runValue _) _ _ _ _
  rw [Sem.wp_runValue]; exact hc _ p rfl (hΓ.enter _ none p (by intro x; cases x)) (hC.enter _ none p)
theorem codeC_mono {c : Code} {R R' : Result → Shared → Prop} (h : codeC M A c R s) (hR : ∀ r s, R r s → R' r s) : codeC M A c R' s := fun Γ p hc hΓ hC => wpCode_mono hR (h Γ p hc hΓ hC)
theorem codeC_of_tree {c : Code} {R : Result → Shared → Prop}
    (h : wpC M (A.under c) (M.den c) (fun fin s' => match fin with | .done f => R (.ok f) s' | .again c' => c'.quiet = true ∧ codeC M A c' R s') (fun e s' => R (.error e) s') s) : codeC M A c R s := fun Γ p hc hΓ hC => by
  rw [wpCode_iff_wp, hc]
  refine Sem.wp_mono M Γ _ (fun fin p' s' h' => ?_) (fun _ _ _ h' => h') p s (h Γ p (hc ▸ hΓ.in) hC.cl)
  cases fin with
  | done f => exact h'
  | again c' => exact ⟨h'.1, h'.2 (Γ.goto c') p' rfl (hΓ.goto c') hC⟩
theorem codeC_loop {c : Code} {R : Result → Shared → Prop} (hq : c.quiet = true) (I : Nat → Shared → Prop)
    (turn : ∀ n s, I n s → wpC M (A.under c) (M.den c) (fun fin s' => match fin with
        | .done f => R (.ok f) s'
        | .again c' => (c' = c ∧ ∃ m, m < n ∧ I m s') ∨ (c'.quiet = true ∧ codeC M A c' R s')) (fun e s' => R (.error e) s') s) :
    ∀ (n : Nat) (s : Shared), I n s → codeC M A c R s := by
  intro n
  induction n using Nat.strongRecOn with
  | ind n ih =>
    intro s h
    refine codeC_of_tree (wpC_mono (turn n s h) (fun fin s' hf => ?_) fun _ _ h' => h')
    cases fin with
    | done f => exact hf
    | again c' =>
      rcases hf with ⟨rfl, m, hm, hI⟩ | hf
      · exact ⟨hq, ih m hm s' hI⟩
      · exact hf
end
end Mine
end

section
open PySem PySem.W PyProof.Rows PySem.Calls
set_option maxRecDepth 100000
set_option maxHeartbeats 1000000
namespace Mine
open Sem (wp)

def isClaimed (st : List (Code × Pos)) : Bool := (st.map (·.1)).any Code.isCaller
/-- look at the stack: under the claim's caller the call, else the answer True -/
def runX (f : Value) (vs : List Value) : Sem Value := .stack fun st => if isClaimed st then call f vs else pure (.bool true)
/-- the caller's own tree -/
def treeS (n : Str) (vs : List Value) : Sem PySem.Fin := (callStub n vs).cur
def treeX (n : Str) (vs : List Value) : Sem PySem.Fin := .stack fun st => if isClaimed st then treeS n vs else pure (.done (.ret (.bool true)))

theorem treeX_of_runX {prog : Program} {w : World} {n : Str} {vs : List Value} {s : Shared} {mg : Str → Option Value} {f : Value} {Q : PySem.Fin → Shared → Prop} {E : Value → Shared → Prop}
    (hg : s.heap.Ns mainGlobals mg) (hf : mg n = some f) (h : wpAny (model prog w) callerA (runX f vs) (fun v s' => Q (.done (.ret v)) s') E s) : wpAny (model prog w) callerA (treeX n vs) Q E s := by
  intro Γ p hΓ
  have h1 := h Γ p hΓ
  unfold runX at h1
  unfold treeX
  rw [Sem.wp_stack] at h1 ⊢
  cases hc : isClaimed ((Γ.code, p) :: Γ.below) with
  | false => rw [hc] at h1; exact h1
  | true =>
    rw [hc] at h1
    have h2 : wp (model prog w) Γ (call f vs) (fun v _ s' => Q (.done (.ret v)) s') (fun e _ s' => E e s') p s := h1
    show wp (model prog w) Γ (treeS n vs) _ _ p s
    unfold treeS callStub
    dsimp only
    rw [Sem.wp_bind']
    change wp (model prog w) Γ (nsGet mainGlobals n) _ _ p s
    rw [Sem.wp_nsGet (model prog w) Γ _ p s hg, hf]
    show wp (model prog w) Γ (do ret (← call f vs)) _ _ p s
    rw [Sem.wp_bind']
    exact Sem.wp_mono _ _ _ (fun v p' s' x => x) (fun _ _ _ x => x) _ _ h2

theorem sched_treeX {prog : Program} {w : World} {n : Str} {vs : List Value} {s s' : Shared} {k : Nat} {o : Outcome} (hs : s.asleep)
    (h : schedN (denote table) prog w k (.single s ⟨treeX n vs, .builtin "claim.caller" {}, default, []⟩) = .halted o s') :
    ∃ k', schedN (denote table) prog w k' (.single s ⟨treeS n vs, .builtin "claim.caller" {}, default, []⟩) = .halted o s' := by
  cases k with
  | zero => cases h
  | succ k =>
    refine ⟨k, ?_⟩
    have hcalm : (⟨treeX n vs, .builtin "claim.caller" {}, default, []⟩ : Thread).calm = true := rfl
    have hstep : step (denote table) prog w s ⟨treeX n vs, .builtin "claim.caller" {}, default, []⟩ = .go s ⟨treeS n vs, .builtin "claim.caller" {}, default, []⟩ := by
      obtain ⟨heap, gens, drawn, toks, os⟩ := s
      rfl
    have e := (sstep_single (denote table) prog w s _ hcalm hs).resolve_right (by rw [hstep]; intro z; cases z)
    rw [hstep] at e
    unfold schedN at h
    rw [e] at h
    exact h

theorem holdsOpenBy_X {c : ClaimW} {n : Str} {defs keeps : List Str} {writes : Bool} (H : c.HoldsOpenBy (fun vs => ⟨treeX n vs, .builtin "claim.caller" {}, default, []⟩) defs keeps writes) :
    c.HoldsOpenBy (fun vs => ⟨treeS n vs, .builtin "claim.caller" {}, default, []⟩) defs keeps writes := by
  obtain ⟨h1, h2, h3⟩ := H
  refine ⟨h1, h2, fun w => ⟨(h3 w).1, fun s hs => ?_⟩⟩
  obtain ⟨s₀, a1, a2, s₁, a3, a4, a5, a6, a7⟩ := (h3 w).2 s hs
  refine ⟨s₀, a1, a2, s₁, a3, a4, a5, a6, fun args hp hl ord ho => ?_⟩
  obtain ⟨vs, s₂, b1, k, o, s', b2, b3⟩ := a7 args hp hl ord ho
  have hs' : AfterImport (opening c.prog) w s := hs
  have z0 : s₀.asleep := Shared.asleep_of_life (fence_lifeW a1) hs'.life
  have z1 : s₁.asleep := Shared.asleep_of_life a3.2.1 z0
  have z2 : s₂.asleep := Shared.asleep_of_life (layAllW_rest _ _ _ b1).2.2.2 z1
  obtain ⟨k', e⟩ := sched_treeX z2 b2
  exact ⟨vs, s₂, b1, k', o, s', e, b3⟩

/-- what the walk owes, under the claim's caller alone -/
abbrev WalkC (q : Program) (loose : List Str) (XP : (Str → Option Value) → Heap → Prop) (YP : World → Heap → Prop) (r : RowW) (d : DefRec) (kwd : List (Str × Expr)) : Prop :=
  ∀ (w : World) (s₀ s₁ : Shared) (mg mb : Str → Option Value), Ground q loose r.records XP w s₀ mg mb s₁.heap → YP w s₁.heap → ∀ (a : Addr) (o : Obj) (pm cd doc dV kV : Value), s₁.heap.get? a = some o →
    o.data = .func { docDef d.name d.params d.body d.scope pm cd doc with defaults := dV, kwdefaults := kV } → s₁.heap.CodeRec cd d.name → Dflts mg s₁.heap d.params kwd dV kV → mg d.name = some (.ref a) → s₁.gens = #[] →
    ∀ (args : List WData) (vals : List Value) (as : List Addr), r.claim.pre args = true → WData.layableAll args = true → ReadsAllW r.records (classAt s₀.heap) s₁.heap vals args as → WellAll w.params s₁.heap vals args → (∀ a ∈ as, (a == sysModules) = false) →
      GoodWG r.claim (classAt s₀.heap) (ExcName.means s₀.heap) args s₁ (.ok (.ret (.bool true))) s₁ ∧
      wpC (model r.prog w) callerA (call (.ref a) vals) (fun v s' => GoodWG r.claim (classAt s₀.heap) (ExcName.means s₀.heap) args s₁ (.ok (.ret v)) s')
        (fun e s' => GoodWG r.claim (classAt s₀.heap) (ExcName.means s₀.heap) args s₁ (.error e) s') s₁

/-- the head under the claim's caller: o_head finds it by this name within this namespace -/
theorem PySem.W.holds_open {r : OpenRow} {q : Program} {loose : List Str} {Xt : Shared → Bool} {XP : (Str → Option Value) → Heap → Prop} {α : Type} {Yf : Shared → α} {Ya : World → α} {YP : World → Heap → Prop} {d : DefRec} {kwd : List (Str × Expr)} {N : Nat}
    (left : LeftO r.prog q loose Xt Yf Ya N) (hY : ∀ w s, Yf s = Ya w → YP w s.heap) (hYk : ∀ w h h', YP w h → (∀ b o, h.get? b = some o → h'.get? b = some o) → YP w h')
    (hX : ∀ s, Xt s = true → XP (s.heap.nsMap mainGlobals) s.heap) (hXk : ∀ mg h h', XP mg h → (∀ b o, h.get? b = some o → h'.get? b = some o) → XP mg h')
    (hdef : defOf q r.name = some (d, kwd)) (hp : r.prog.theDef r.name = some (d.params, d.body, d.scope)) (hk : kwWritten? d.params.kwonlyargs d.params.kw_defaults = some kwd) (hRf : ∀ s, Xt s = true → RecFacts r.records s.heap) (hwr : (!r.writes || r.records.isEmpty) = true)
    (k1 : r.wellSaid = true) (ok : (chainsOk q && opensWell r.prog && (frees r.toRowW && r.within.isEmpty)) = true) (hb : r.prog.bare) (hw : r.toRowW.promised)
    (call : WalkC q loose XP YP r.toRowW d kwd) : r.Holds := by
  refine ⟨k1, hw, holdsOpenBy_X (open_anyG (r := r.toRowW) (run := runX) (tree := treeX r.name) left hY hYk hX hXk hRf hwr ok hb hw
    (fun vs w s mg f Q E hg hf h => treeX_of_runX hg hf h) (fun w s hg G n hn => ?_) fun w s₀ s₁ mg mb G Y args vs as hpre hlay L low => ?_)⟩
  · have e : n = r.name := by
      split at hn
      · exact List.mem_singleton.mp hn
      · cases hn
    rw [e]
    exact pinned_of_view hg G hdef hp hk
  · obtain ⟨a, o, pm, cd, doc, dV, kV, h1, h2, h3, h4, h5⟩ := G.fn hdef
    obtain ⟨g1, g2⟩ := call w s₀ s₁ mg mb G Y a o pm cd doc dV kV h2 h3 h4 h5 (defOf_name hdef ▸ h1) L.gens args vs as hpre hlay L.reads L.well (L.low low)
    refine ⟨.ref a, h1, fun Γ p hΓ => ?_⟩
    unfold runX
    rw [Sem.wp_stack]
    cases hc : isClaimed ((Γ.code, p) :: Γ.below) with
    | false => exact g1
    | true => exact g2 Γ p hΓ hc

open_top hd for PySem.Challenge.rw_dz0075_01
end Mine
end

section
open PySem PySem.W PyProof.Rows PySem.Calls
set_option maxRecDepth 100000
namespace Mine
theorem calm_C3 : True := by
  w_top off
  trivial
open Sem (wp)

/-- a goal set aside: the walk stops before it -/
def Stop (P : Prop) : Prop := P

section
variable {M : Model} {A : Around} {E : Value → Shared → Prop} {s : Shared} {env : Env}

theorem wpC_execs_nil {Q : Flow → Shared → Prop} (h : Q .next s) : wpC M A (execs [] env) Q E s := fun _ _ _ _ => h
theorem wpC_execs_cons {st : Stmt} {rest : List Stmt} {Q : Flow → Shared → Prop}
    (h : wpC M A (exec st env) (fun f s' => match f with | .next => wpC M A (execs rest env) Q E s' | f => Q f s') E s) : wpC M A (execs (st :: rest) env) Q E s := by
  rw [execs_cons]
  refine wpC_bind (wpC_mono h (fun f s' h' => ?_) fun _ _ x => x)
  cases f <;> first | exact h' | exact wpC_pure h'
theorem wpC_If {test : Expr} {body orelse : List Stmt} {pos : Pos} {Q : Flow → Shared → Prop}
    (h : wpAny M A (isTrue test env (eval test env)) (fun b s₂ => Stop (if b then wpC M A (execs body env) Q E s₂ else wpC M A (execs orelse env) Q E s₂)) E s) : wpC M A (exec (.If test body orelse pos) env) Q E s := by
  rw [exec_If]
  refine wpC_bind (wpC_standAt (wpC_bindA (wpAny_mono h (fun b s' h' => ?_) fun _ _ x => x)))
  cases b
  · exact h'
  · exact h'
theorem wpC_Assign_Name {x : Str} {pos' pos : Pos} {value : Expr} {Q : Flow → Shared → Prop}
    (h : wpC M A (eval value env) (fun v s₁ => wpAny M A (storeName env x v) (fun _ => Q .next) E s₁) E s)
    (hs : swapsWith value (some (.Name x pos')) pos.line env = pure false := by rfl) : wpC M A (exec (.Assign [.Name x pos'] value pos) env) Q E s := by
  rw [exec_Assign_Name env x pos' value pos hs]
  refine wpC_bind (wpC_standAt (wpC_bind (wpC_mono h (fun v s' h' => ?_) fun _ _ x => x)))
  exact wpC_bind (wpC_standAt (wpC_bindA (wpAny_bindName (wpAny_mono h' (fun _ _ q => wpC_pure q) fun _ _ x => x))))

theorem wpC_tryStmt {body orelse : Sem Flow} {h₀ : ExceptHandler} {hs : List ExceptHandler} {Q : Flow → Shared → Prop}
    (h : wpC M A body (fun f s₁ => match f with | .next => wpC M A orelse Q E s₁ | f => Q f s₁)
      (fun e s₁ => wpAny M A (noteFrame e env) (fun _ s₂ => wpAny M A (setFlight e none) (fun _ s₃ => wpAny M A (handleBy e env (h₀ :: hs)) Q E s₃) E s₂) E s₁) s) :
    wpC M A (tryStmt false body (h₀ :: hs) orelse [] env) Q E s := by
  unfold tryStmt
  simp only [List.isEmpty_nil, if_true, List.isEmpty_cons, Bool.false_and, Bool.false_eq_true, if_false]
  refine wpC_bind (wpC_attempt (wpC_mono h (fun f s₁ h₁ => ?_) fun e s₁ h₁ => ?_))
  · cases f <;> first | exact h₁ | exact wpC_pure h₁
  · exact wpC_of (wpAny_bind (wpAny_mono h₁ (fun _ _ h₂ => wpAny_bind h₂) fun _ _ x => x))
theorem wpC_Try {body orelse : List Stmt} {h₀ : ExceptHandler} {hs : List ExceptHandler} {pos : Pos} {Q : Flow → Shared → Prop}
    (h : wpC M A (execs body env) (fun f s₁ => match f with | .next => wpC M A (execs orelse env) Q E s₁ | f => Q f s₁)
      (fun e s₁ => wpAny M A (noteFrame e env) (fun _ s₂ => wpAny M A (setFlight e none) (fun _ s₃ => wpAny M A (handleBy e env (h₀ :: hs)) Q E s₃) E s₂) E s₁) s) :
    wpC M A (exec (.Try body (h₀ :: hs) orelse [] pos) env) Q E s := by
  show wpC M A (do standAt pos; tryStmt false (execs body env) (h₀ :: hs) (execs orelse env) [] env) Q E s
  exact wpC_bind (wpC_standAt (wpC_tryStmt h))

theorem wpC_Call_Name {x : Str} {p pos : Pos} {args : List Expr} {Q : Value → Shared → Prop}
    (h : wpAny M A (eval (.Name x p) env) (fun f s₁ => Stop (wpC M A (callWith pos f [] (backTo pos (starEach args env)) []) Q E s₁)) E s) : wpC M A (eval (.Call (.Name x p) args [] pos) env) Q E s := wpC_bindA h

/-- a call of a function or of a type, its arguments by the library -/
theorem callWith_C {pos : Pos} {f : Value} {e : Expr} {rest : List Expr} {Q : Value → Shared → Prop} (k : Keeper) (hk : k = .frame ∨ k = .machine)
    (h : wpAny M A (spliced (backTo pos (starEach (e :: rest) env))) (fun vs s₁ => Stop (Looks M s₁.heap (keeperOf f) k ∧ wpC M A (call f vs) Q E s₁)) E s)
    (he : starEach (e :: rest) env = (false, eval e env) :: starEach rest env := by rfl) (hplain : (backTo pos (starEach rest env)).any (·.1) = false := by rfl) :
    wpC M A (callWith pos f [] (backTo pos (starEach (e :: rest) env)) []) Q E s := by
  have hany : ((backTo pos (starEach (e :: rest) env)).any (·.1) || ([] : List (Option Str × Sem Value)).any (·.1.isNone)) = false := by
    rw [he]
    show ((false || (backTo pos (starEach rest env)).any (·.1)) || false) = false
    rw [hplain]; rfl
  rw [he] at h
  unfold callWith
  refine wpC_bind (wpC_holding (wpC_of ?_))
  rw [he]
  refine evalArgs_plain (wpAny_mono h (fun vs s₁ h₁ => ?_) fun _ _ x => x)
  obtain ⟨L, hc⟩ := h₁
  refine wpC_bind (wpC_standAt ?_)
  have tail : ∀ {t : Sem Value}, wpC M A t Q E s₁ → wpC M A (t >>= fun r => holding [r] point >>= fun _ => pure r) Q E s₁ :=
    fun ht => wpC_bind (wpC_mono ht (fun r s₂ hr => wpC_of (wpAny_bind (wpAny_holding (wpAny_point (wpAny_pure hr))))) fun _ _ x => x)
  have marked (mk : Value) : wpC M A (callMarked mk f ([] ++ vs) []) Q E s₁ := by unfold callMarked; exact wpC_keep hc
  rw [he] at hany
  simp only [hany]
  refine wpC_bindA (L.here ?_)
  rcases hk with rfl | rfl
  · dsimp only
    split
    · exact tail hc
    · exact tail (marked _)
  · exact tail hc
end

section
variable {prog : Program} {w : World} {A : Around} {s : Shared} {env : Env}

theorem codeC_forLoop {R : Result → Shared → Prop} {target : Expr} {it : Value} {body : List Stmt} (I : Nat → Shared → Prop)
    (turn : ∀ n s, I n s → wpAny (model prog w) A (pyNext it) (fun r s₁ => match r with
      | none => R (.ok .next) s₁
      | some v => wpAny (model prog w) A (letOwnedTupleGo target it v) (fun _ s₁' =>
          wpAny (model prog w) A (assign target env v) (fun _ s₂ => wpC (model prog w) A (execs body env) (fun f s₃ => match f with
            | .next | .cont => ∃ m, m < n ∧ I m s₃
            | .brk => R (.ok .next) s₃
            | .ret v => R (.ok (.ret v)) s₃) (fun _ _ => False) s₂) (fun _ _ => False) s₁') (fun _ _ => False) s₁) (fun _ _ => False) s)
    (n : Nat) (h : I n s) : codeC (model prog w) A (.forLoop target it body [] env) R s := by
  refine codeC_loop rfl I (fun n s hI => ?_) n s h
  show wpC _ A ((forTurn target it body [] env).onRaise (fun x => do noteFrame x env; theTreesLotGoes x)) _ _ s
  refine wpC_onRaise (wpC_mono (E := fun _ _ => False) ?_ (fun _ _ x => x) fun _ _ x => x.elim)
  simp only [forTurn]
  refine wpC_bind (wpC_standAt (wpC_bindA (wpAny_onRaise (wpAny_mono (turn n s hI) (fun r s₁ h₁ => ?_) fun _ _ h' => h'.elim))))
  cases r with
  | none => exact wpC_pure (.inr ⟨rfl, codeC_of (codeAny_block (fun _ _ _ => h₁))⟩)
  | some v =>
    refine wpC_bindA (wpAny_mono h₁ (fun _ s₁' h₁' => ?_) fun _ _ h' => h')
    refine wpC_bindA (wpAny_mono h₁' (fun _ s₂ h₂ => wpC_bind (wpC_mono h₂ (fun f s₃ h₃ => ?_) fun _ _ h' => h')) fun _ _ h' => h')
    cases f with
    | next => exact wpC_pure (.inl ⟨rfl, h₃⟩)
    | cont => exact wpC_pure (.inl ⟨rfl, h₃⟩)
    | brk => exact wpC_pure h₃
    | ret v => exact wpC_pure h₃

/-- a loop over what walks, nothing raised out of it -/
theorem wpC_For {Q : Flow → Shared → Prop} {E : Value → Shared → Prop} {x : Str} {px pos : Pos} {iter : Expr} {body : List Stmt}
    (h : wpAny (model prog w) A (eval iter env) (fun xv s₁ => Stop (wpAny (model prog w) A (pyIter xv) (fun it s₂ =>
      ∃ (I : Addr) (fp wr : List Addr) (n : Nat) (P : Nat → Value → Prop) (St : Nat → Heap → Prop) (J : Nat → Shared → Prop), it = .ref I ∧ Walks prog w A I fp wr n P St ∧ St 0 s₂.heap ∧ J 0 s₂ ∧
        (∀ i s₃ v h₁ tk, i < n → St i s₃.heap → J i s₃ → P i v → St (i + 1) h₁ → (∀ b o, b ∉ wr → s₃.heap.get? b = some o → h₁.get? b = some o) →
          wpAny (model prog w) A (storeName env x v) (fun _ s₄ => wpC (model prog w) A (execs body env) (fun f s₅ => match f with
            | .next | .cont => St (i + 1) s₅.heap ∧ J (i + 1) s₅
            | .brk => Q .next s₅
            | .ret v => Q (.ret v) s₅) (fun _ _ => False) s₄) (fun _ _ => False) { s₃ with heap := h₁, toks := tk }) ∧
        ∀ s₃ h' tk, St n s₃.heap → J n s₃ → (∀ b o, b ∉ wr → s₃.heap.get? b = some o → h'.get? b = some o) → Q .next { s₃ with heap := h', toks := tk }) E s₁)) E s)
    (hs : ∀ x, foldedSetIterable iter env x = pure x := by intro _; rfl) :
    wpC (model prog w) A (exec (.For (.Name x px) iter body [] pos) env) Q E s := by
  show wpC _ A (do
    standAt pos
    let x ← foldedSetIterable iter env (← eval iter env)
    standAt iter.pos
    runOwn (.forLoop (.Name _ px) (← holding [x] (pyIter x)) body [] env) env) Q E s
  refine wpC_bind (wpC_standAt (wpC_bindA (wpAny_mono h (fun xv s₁ h₁ => ?_) fun _ _ e => e)))
  rw [hs xv]
  refine wpC_bind (wpC_pure (wpC_bind (wpC_standAt (wpC_bind (wpC_holding (wpC_of (wpAny_mono h₁ (fun it s₂ h₂ => ?_) fun _ _ e => e)))))))
  obtain ⟨I, fp, wr, n, P, St, J, rfl, W, hst, hJ, turn, done⟩ := h₂
  unfold runOwn
  refine wpC_onRaise (wpC_mono (E := fun _ _ => False) (wpC_run ?_) (fun _ _ x => x) fun _ _ x => x.elim)
  refine codeC_forLoop (fun k s' => ∃ i, i ≤ n ∧ k = n + 1 - i ∧ St i s'.heap ∧ J i s') ?_ (n + 1) ⟨0, Nat.zero_le _, rfl, hst, hJ⟩
  rintro k s' ⟨i, hi, rfl, hst', hJ'⟩
  rcases Nat.lt_or_ge i n with hlt | hge
  · refine W.item i s' _ _ hlt hst' fun v h₁ tk hP hst₁ hk => ?_
    refine wpAny_pure (wpAny_assign_Name (wpAny_mono (turn i s' v h₁ tk hlt hst' hJ' hP hst₁ hk) (fun _ s₄ h₄ => wpC_mono h₄ (fun f s₅ h₅ => ?_) fun _ _ x => x) fun _ _ x => x))
    cases f with
    | next => exact ⟨n + 1 - (i + 1), by omega, i + 1, hlt, rfl, h₅⟩
    | cont => exact ⟨n + 1 - (i + 1), by omega, i + 1, hlt, rfl, h₅⟩
    | brk => exact h₅
    | ret v => exact h₅
  · have e : i = n := by omega
    subst e
    exact W.done s' _ _ hst' fun h' tk hk => done s' h' tk hst' hJ' hk

/-- a def called: the frame upon what stands, the caller's frame set apart -/
theorem codeC_call_def {R : Result → Shared → Prop} {a : Addr} {o : Obj} {fd : FuncData} {body : List Stmt} {args : Args} {binds : List (Str × Value)}
    (hroom : A.depth < recursionLimit) (ho : s.heap.get? a = some o) (hdata : o.data = .func fd) (hlim : s.heap.NoLimit) (hcd : s.heap.CodeRec fd.code fd.qualname)
    (hbody : fd.body = .stmts body) (hbind : BindsTo s fd args binds)
    (hcell : ∀ x ∈ fd.scope.names, x.2 ≠ .cell) (hloc : ∀ x ∈ binds, fd.scope.names.lookup x.1 = some .local)
    (h : ∀ h₀, h₀.Ns s.heap.objs.size (fun x => binds.reverse.lookup x) → (∀ b o, s.heap.get? b = some o → h₀.get? b = some o) →
      wpC (model prog w) (A.deeper (callEnv fd s.heap.objs.size a)) (execs body (callEnv fd s.heap.objs.size a)) (fun f s' => R (.ok (.ret (match f with | .ret v => v | _ => .none))) s') (fun _ _ => False)
        { s with heap := h₀, toks := s.toks + binds.length })
    (hco : fd.scope.isCoroutine = false := by rfl) (hgen : fd.scope.isGenerator = false := by rfl) (hk : fd.scope.kind = .function := by rfl) :
    codeC (model prog w) A (.call (.ref a) args) R s := by
  refine codeC_of_tree ?_
  show wpC _ A.in1 (callAny (.ref a) args) _ _ s
  simp only [callAny]
  refine wpC_bindA (wpAny_load ho ?_)
  obtain ⟨c, oc, vs, tq, hc, hoc, hdc, hq⟩ := hcd
  simp only [hdata, callFunction, hco, hgen, hbody, hc]
  refine wpC_bindA (m := field (.ref c) 1) (wpAny_field hoc hdc hq (wpC_bind (wpC_pure ?_)))
  refine wpC_bindA (hbind _ _ _ _ ?_)
  rw [← hc]
  refine wpC_bindA (wpAny_newFunctionEnv hcell hloc (fun h₀ hns₀ hsb₀ => ?_) hk)
  refine wpC_bindA (wpAny_enterFrame (hlim.fresh _ hsb₀) hroom ?_)
  refine wpC_pure ⟨rfl, codeC_of_tree ?_⟩
  show wpC _ (A.deeper (callEnv fd s.heap.objs.size a)) (do point; match ← (execs body (callEnv fd s.heap.objs.size a)).onRaise (leaving (callEnv fd s.heap.objs.size a)) with | .ret v => ret v | _ => ret .none) _ _ _
  refine wpC_bindA (wpAny_point (wpC_bind (wpC_onRaise (wpC_mono (h h₀ hns₀ fun b o e => ?_) (fun f s' h' => ?_) fun _ _ x => x.elim))))
  · exact hsb₀.extBut b o (Nat.ne_of_lt (Heap.lt_size e)) (Heap.get?_push_of_some _ e)
  · cases f <;> exact wpC_pure h'
end
end Mine
end

section
open PySem PySem.W PyProof.Rows PySem.Calls PySem.NumText
set_option maxRecDepth 100000
set_option maxHeartbeats 2000000
namespace Mine
theorem calm_C4 : True := by
  w_top off
  trivial
open Sem (wp)

section
variable {prog : Program} {w : World} {A : Around} {E : Value → Shared → Prop} {s : Shared}

theorem wpC_markTheRefusal {own : List String} {e : Value} {Q : Unit → Shared → Prop} {M : Model} (h : Q () s) : wpC M A (markTheRefusal own e) Q E s := by
  intro Γ p hΓ hC
  have hf : pythonCodeMadeTheCall own (((Γ.code, p) :: Γ.below).map (·.1)) = false := by
    have key : ∀ a b c : Bool, a = true → ((!a && b) && c) = false := by decide
    exact key _ _ _ hC
  unfold markTheRefusal
  rw [Sem.wp_bind']
  show wp M Γ (if pythonCodeMadeTheCall own (((Γ.code, p) :: Γ.below).map (·.1)) then _ else _) _ _ p s
  rw [hf]
  exact h

theorem wpC_ite_pos {α : Type} {M : Model} {c : Prop} [Decidable c] {a b : Sem α} {Q : α → Shared → Prop} (hc : c) (h : wpC M A a Q E s) : wpC M A (if c then a else b) Q E s := by rw [if_pos hc]; exact h
theorem wpC_ite_neg {α : Type} {M : Model} {c : Prop} [Decidable c] {a b : Sem α} {Q : α → Shared → Prop} (hc : ¬ c) (h : wpC M A b Q E s) : wpC M A (if c then a else b) Q E s := by rw [if_neg hc]; exact h

theorem intFromText_invalid {x : Str} {u : Tok} {text : List Nat} {Q : Value → Shared → Prop} (hh : A.handled = none) (hs : (text.takeWhile (· != 0)).length ≤ 640) (hx : (reprText x).length ≤ sizeLine)
    (hr : (int_private% "readNumeral") 0 10 (text.takeWhile (· != 0)) = (int_private% "Numeral.invalid"))
    (h : ∀ h' tk e, Heap.NewExc s.heap h' e "ValueError" → E (.ref e) { s with heap := h', toks := tk }) :
    wpC (model prog w) A ((int_private% "intFromText") (.str x u) text 10) Q E s := by
  refine wpC_ite_pos hs ?_
  refine wpC_bind (wpC_pure ?_)
  dsimp only
  rw [hr]
  dsimp only
  refine wpC_bind (wpC_pure ?_)
  refine wpC_ite_neg (by simp) ?_
  refine wpC_bindA (wpAny_rule ?_)
  refine wpC_bind (wpC_pure ?_)
  refine wpC_bindA (wpAny_pyRepr_str ?_ hx)
  refine wpC_bindA (wpAny_mkStr ?_ ?_)
  · refine wpC_bindA (wpAny_newExc_plain plainExc_ValueError fun h' e he => ?_)
    refine wpC_bind (wpC_markTheRefusal ?_)
    exact wpC_of (wpAny_raiseNew_none hh (h _ _ _ he.newExc))
  · rw [Str.length_append, sizeLine_eq]
    have h1 : (Str.ofString (toString "invalid literal for int() with base " ++ toString 10 ++ toString ": ")).length = 40 := by decide +kernel
    have h2 : Str.length { cps := (reprText x).cps.extract 0 200 } ≤ 200 := by
      show ((reprText x).cps.extract 0 200).size ≤ 200
      rw [Array.size_extract]; omega
    omega

namespace F2
theorem typeCall (a b : Value) : checkTypeCall "int" ⟨[a, b], []⟩ = pure () := by kernel_rfl
theorem newCall (a b : Value) : checkBuiltinCall "int.__new__" ⟨[.type "int", a, b], []⟩ = pure () := by kernel_rfl
theorem init3 (o a b : Value) : argsOk "object.__init__" ⟨[o, a, b], []⟩ := by unfold argsOk; kernel_rfl
end F2

theorem int_new_eq {x : Str} {u t : Tok} : Builtin.«int.__new__» ⟨[.type "int", .str x u, .int 10 t], []⟩ = ((int_private% "intFromText") (.str x u) (numTextOf x) 10 >>= fun v => ret v) := by
  have f1 := F.conv_sub_int
  have f2 := F.madeHere_int
  have f3 : isType (.type "int") = pure true := rfl
  have f4 : Builtin.Int.intIndex "int.__new__" (.int 10 t) = pure 10 := rfl
  have f5 : (int_private% "numeralText?") (.str x u) = pure (some (numTextOf x)) := rfl
  unfold Builtin.«int.__new__»
  dsimp only
  rw [f3]
  simp only [pure_bind, f1, f2]
  rfl

theorem codeC_builtin {id : String} {args : Args} {b : Builtin} {R : Result → Shared → Prop} (hb : entryFor table id = some b)
    (h : wpC (model prog w) (A.under (.builtin id args)) (b args) (fun fin s' => match fin with | .done f => R (.ok f) s' | .again c' => c'.quiet = true ∧ codeC (model prog w) A c' R s') (fun e s' => R (.error e) s') s) :
    codeC (model prog w) A (.builtin id args) R s := by
  refine codeC_of_tree ?_
  show wpC _ _ (match entryFor table id with | some b => b args | none => unsupported ((withoutEnding? id "#data").getD id)) _ _ s
  rw [hb]; exact h

theorem type_call_eq {a b : Value} : ∃ k, Builtin.«type.__call__» ⟨[.type "int", a, b], []⟩ = (holding [.builtin "int.__new__"] (call (.builtin "int.__new__") [.type "int", a, b]) >>= k) := by
  have f1 := F.called_int.notType
  have f2 := F.called_int.canCreate
  have f3 := F2.typeCall a b
  have f4 := F.mro_int
  have f5 := F.called_int.made
  unfold Builtin.«type.__call__»
  dsimp only
  rw [f1]
  simp only [f2, f3, f4, f5, pure_bind]
  exact ⟨_, rfl⟩

theorem call_int_raises {x : Str} {u t : Tok} {Q : Value → Shared → Prop} (hh : A.handled = none) (hs : x.length ≤ 640) (hx : (reprText x).length ≤ sizeLine)
    (hr : (int_private% "readNumeral") 0 10 (numSeenOf x) = (int_private% "Numeral.invalid"))
    (h : ∀ h' tk e, Heap.NewExc s.heap h' e "ValueError" → E (.ref e) { s with heap := h', toks := tk }) :
    wpC (model prog w) A (call (.type "int") [.str x u, .int 10 t]) Q E s := by
  refine wpC_call (codeC_of_tree ?_)
  refine wpC_pure ⟨Code.quiet_builtin _ (by decide +kernel), codeC_builtin F.entry_type_call ?_⟩
  obtain ⟨k, e⟩ := type_call_eq (a := .str x u) (b := .int 10 t)
  show wpC _ _ (Builtin.«type.__call__» ⟨[.type "int", .str x u, .int 10 t], []⟩) _ _ _
  rw [e]
  refine wpC_bind (wpC_holding (wpC_call (codeC_of_tree ?_)))
  show wpC _ _ (do checkBuiltinCall "int.__new__" ⟨[.type "int", .str x u, .int 10 t], []⟩; again (.builtin "int.__new__" ⟨[.type "int", .str x u, .int 10 t], []⟩)) _ _ _
  rw [F2.newCall]
  refine wpC_bind (wpC_pure (wpC_pure ⟨plainId_quiet (by decide +kernel) _, codeC_builtin F.entry_int_new ?_⟩))
  show wpC _ _ (Builtin.«int.__new__» ⟨[.type "int", .str x u, .int 10 t], []⟩) _ _ _
  rw [int_new_eq]
  exact wpC_bind (intFromText_invalid (by exact hh) (Nat.le_trans (seen_length x) hs) hx hr h)

theorem call_int_digits {x : Str} {u t : Tok} {n : Int} {Q : Value → Shared → Prop} (hs : x.length ≤ 640) (hn : PySem.intText? x = some n) (h : Q (.int n s.toks) { s with toks := s.toks + 1 }) :
    wpAny (model prog w) A (call (.type "int") [.str x u, .int 10 t]) Q E s := by
  have hr : (int_private% "readNumeral") 0 10 (numSeenOf x) = (int_private% "Numeral.value") n ∧ ((numSeenOf x).length == (numTextOf x).length) = true := by
    rcases read0 x (Nat.le_trans (seen_length x) hs) with ⟨m, h1, h2, h3⟩ | ⟨h1, _⟩
    · rw [hn] at h1
      injection h1 with h1
      subst h1
      exact ⟨h3, h2⟩
    · rw [hn] at h1
      cases h1
  refine callType_new F.called_int F.newNe_int (F2.typeCall _ _) (F2.newCall _ _) (fun obj => F2.init3 obj _ _) F.entry_int_new
    (S := fun _ R s' => s' = s ∧ R (.ok (.ret (.int n s.toks))) { s with toks := s.toks + 1 }) (.of_wp ?_) ⟨rfl, rfl, h⟩
  rintro prog w A R _ ⟨rfl, hR⟩
  rw [int_new_eq]
  exact wpAny_bind (KIN.wp_text (Nat.le_trans (seen_length x) hs) hr.1 hr.2 (wpAny_pure ⟨_, rfl, hR⟩))
end

def isLet (c : Nat) : Bool := (97 ≤ c && c ≤ 122) || (65 ≤ c && c ≤ 90)

theorem let_lt {c : Nat} (h : isLet c = true) : c < 128 ∧ c ≠ 0 ∧ blank c = false ∧ c ≠ 45 ∧ c ≠ 43 := by
  unfold isLet at h
  simp only [Bool.or_eq_true, Bool.and_eq_true, decide_eq_true_eq] at h
  refine ⟨by omega, by omega, ?_, by omega, by omega⟩
  unfold blank
  simp only [Bool.or_eq_false_iff, beq_eq_false_iff_ne, Bool.and_eq_false_iff, decide_eq_false_iff_not]
  omega
theorem dropWhile_let {l : List Nat} (hl : ∀ c ∈ l, isLet c = true) : l.dropWhile blank = l := by
  cases l with
  | nil => rfl
  | cons c r => rw [List.dropWhile_cons, (let_lt (hl c (by simp))).2.2.1]; rfl
theorem step_let {p : Array Nat × Bool} {c : Nat} (h : isLet c = true) : NumText.step 10 p c = none := by
  have h' := h
  unfold isLet at h
  simp only [Bool.or_eq_true, Bool.and_eq_true, decide_eq_true_eq] at h
  unfold NumText.step
  rw [if_neg (by simp; omega)]
  unfold digit?
  rw [if_neg (by simp; omega)]
  by_cases h1 : 97 ≤ c
  · rw [if_pos (by simp; omega)]
    dsimp only
    rw [if_neg (by omega)]
  · rw [if_neg (by simp; omega), if_pos (by simp; omega)]
    dsimp only
    rw [if_neg (by omega)]

theorem takeWhile_all {α : Type} {p : α → Bool} : ∀ {l : List α}, (∀ c ∈ l, p c = true) → l.takeWhile p = l
  | [], _ => rfl
  | c :: r, h => by rw [List.takeWhile_cons, h c (by simp), if_pos rfl, takeWhile_all fun d hd => h d (by simp [hd])]

theorem letters_invalid {x : Str} (hne : x.cps.toList ≠ []) (hl : ∀ c ∈ x.cps.toList, isLet c = true) : (int_private% "readNumeral") 0 10 (numSeenOf x) = (int_private% "Numeral.invalid") := by
  have h1 : numTextOf x = x.cps.toList := by
    unfold numTextOf
    rw [if_pos]
    rw [← Array.all_toList, List.all_eq_true]
    intro c hc
    simpa using (let_lt (hl c hc)).1
  have h2 : numSeenOf x = x.cps.toList := by
    unfold numSeenOf
    rw [h1]
    exact takeWhile_all fun c hc => by simpa using (let_lt (hl c hc)).2.1
  rw [readNumeral_ten, h2]
  generalize x.cps.toList = l at hne hl
  have h3 : core l = l := by
    unfold core
    rw [dropWhile_let hl]
    have h4 : (sign l).2 = l := by
      cases l with
      | nil => rfl
      | cons c r =>
        have := let_lt (hl c (by simp))
        unfold sign
        split
        · rename_i e; cases e; exact absurd rfl this.2.2.2.1
        · rename_i e; cases e; exact absurd rfl this.2.2.2.2
        · rfl
    rw [h4, dropWhile_let (fun c hc => hl c (List.mem_reverse.mp hc)), List.reverse_reverse]
  rw [h3]
  cases l with
  | nil => exact absurd rfl hne
  | cons c r =>
    have h5 : digits? 10 (c :: r) = none := by
      unfold digits?
      rw [List.foldlM_cons, step_let (hl c (by simp))]
      rfl
    rw [h5]
    exact judge_none
end Mine
end

section
open PySem PySem.W PyProof.Rows PySem.Calls
set_option maxRecDepth 100000
set_option maxHeartbeats 8000000
namespace Mine
theorem calm_C5 : True := by
  w_top off
  trivial

section
variable {prog : Program} {w : World} {A : Around} {E : Value → Shared → Prop} {s : Shared} {K : Frag}
/-- a def called, its frame upon all that stands -/
theorem call_base {R : Result → Shared → Prop} {name qual : Str} {params : Arguments} {body : List Stmt} {scope : Scope} {dV kV doc pm cdv ct oc : Value} {an od : Option Addr} {osl : Array (Option Value)} {f : Addr} {args : Args} {binds : List (Str × Value)}
    (X : K.In s.heap) (hlim : s.heap.NoLimit) (ho : K.lookup f = some ⟨oc, od, .func (fnOf name qual params body scope dV kV doc pm an cdv ct), osl⟩) (hcd : codeIn K cdv qual = true) (hroom : A.depth < recursionLimit)
    (hbind : BindsTo s (fnOf name qual params body scope dV kV doc pm an cdv ct) args binds) (hloc : ∀ y ∈ binds, scope.names.lookup y.1 = some .local)
    (h : ∀ h₁, Fr s.heap s.heap.objs.size h₁ (fun y => binds.reverse.lookup y) → News s.heap s.heap.objs.size h₁ [] →
      wpAny (model prog w) (A.deeper (envOf qual scope s.heap.objs.size f cdv)) (execs body (envOf qual scope s.heap.objs.size f cdv))
        (fun fl s' => R (.ok (.ret (match fl with | .ret v => v | _ => .none))) s')
        (fun e s' => wpAny (model prog w) (A.deeper (envOf qual scope s.heap.objs.size f cdv)) (leaving (envOf qual scope s.heap.objs.size f cdv) e) (fun _ s'' => R (.error e) s'') (fun e' s'' => R (.error e') s'') s')
        { s with heap := h₁, toks := s.toks + binds.length })
    (hco : scope.isCoroutine = false) (hgen : scope.isGenerator = false) (hk : scope.kind = .function) (hcell : ∀ x ∈ scope.names, x.2 ≠ .cell) : codeAny (model prog w) A (.call (.ref f) args) R s :=
  codeAny_call_def (fd := fnOf name qual params body scope dV kV doc pm an cdv ct) (body := body) (binds := binds) hroom (X _ _ ho) rfl hlim (codeRec_of X hcd) rfl hbind hcell hloc
    (fun h₁ hns hk₁ => h h₁ ⟨hns, hk₁, Nat.le_refl _⟩ News.nil) hco hgen hk
end

section
variable {prog : Program} {w : World} {A : Around} {E : Value → Shared → Prop} {s : Shared} {h₀ : Heap} {L l : Addr} {m : Str → Option Value} {news : List (Addr × Obj)} {vs : List Value} {n : Nat}

theorem isList_N (N : News h₀ L s.heap news) (hm : (l, W.listOf vs.toArray n) ∈ news) : s.heap.IsList l vs.toArray := ⟨_, (N _ hm).1, rfl, n, rfl⟩

theorem strsAre_at : ∀ {vs : List Value} {ys : List Str}, StrsAre vs ys → ∀ (i : Nat) (h : i < vs.length), ∃ h' : i < ys.length, ∃ t, vs[i] = .str ys[i] t
  | _, _, .cons y t _, 0, _ => ⟨by simp, t, rfl⟩
  | _, _, .cons y t r, i + 1, h => by
    obtain ⟨h', t', e⟩ := strsAre_at r i (by simpa using h)
    exact ⟨by simpa using h', t', by simpa using e⟩

theorem index_N {ys : List Str} {k : Str} {t : Tok} {Q : Value → Shared → Prop} (N : News h₀ L s.heap news) (hm : (l, W.listOf vs.toArray n) ∈ news) (hi : StrsAre vs ys) (hk : k ∈ ys) (hb : ys.length < 1000)
    (h : Q (.int (ys.idxOf k : Nat) s.toks) { s with toks := s.toks + 1 }) : wpAny (model prog w) A (call (.builtin "list.index") [.ref l, .str k t]) Q E s := by
  have ho := (N _ hm).1
  have hlen := hi.length
  have hj : ys.idxOf k < ys.length := List.idxOf_lt_length_iff.mpr hk
  refine call_meets PySem.F.slot_list_index ⟨_, ho, rfl⟩ PySem.F.entry_list_index (PySem.F.args_list_index_2 _ _)
    (MeetsSeq.list_index l vs.toArray n (.str k t) (fun v => match v with | .str y _ => y == k | _ => false) ?_ (ys.idxOf k) (by simpa [hlen] using hj) (by omega) ?_ ?_) ⟨ho, h⟩
  · intro y hy
    obtain ⟨i, hi', e⟩ := List.getElem_of_mem (by simpa using hy : y ∈ vs)
    obtain ⟨_, t', e'⟩ := strsAre_at hi i hi'
    rw [← e, e']
    exact eqGives_str _ _ _ _
  · obtain ⟨_, t', e'⟩ := strsAre_at hi (ys.idxOf k) (by omega)
    have e2 : vs.toArray[ys.idxOf k]'(by simpa [hlen] using hj) = .str (ys[ys.idxOf k]) t' := by simpa using e'
    rw [e2]
    simp [List.getElem_idxOf hj]
  · intro j hjs hlt
    obtain ⟨h1, t', e'⟩ := strsAre_at hi j (by simpa using hjs)
    have e2 : vs.toArray[j]'hjs = .str (ys[j]) t' := by simpa using e'
    rw [e2]
    show (ys[j] == k) = false
    have hlt' : j < ys.findIdx (· == k) := hlt
    simpa using List.not_of_lt_findIdx hlt'

theorem item_N {value slice : PySem.Expr} {ns : List Int} {i : Nat} {r : Int} {u : Tok} {Q : Value → Shared → Prop} (N : News h₀ L s.heap news) (hm : (l, W.listOf vs.toArray n) ∈ news) (hi : IntsAre vs ns) (hb : ns.length < 1000) (hr : ns[i]? = some r)
    (h : ∀ t, Q (.int r t) s)
    (hs : subscripted slice false (.ref l) (.int (i : Int) u) = operate [.ref l, .int (i : Int) u] (getItem (.ref l) (.int (i : Int) u)) := by with_unfolding_all rfl) :
    wpAny (model prog w) A (subscriptTail value slice (.ref l) (.int (i : Int) u)) Q E s := by
  obtain ⟨t, ht⟩ := hi.get i r hr
  have hlt : i < ns.length := (List.getElem?_eq_some_iff.mp hr).1
  have hL := isList_N N hm
  exact tail_any hL.typeIs slot_list_getitem.lookup (wpAny_getItem_list hL (by omega) (by omega) (by simpa using ht) (h t)) hs
end

def rankNames : List Str := ["dev", "alpha", "a", "beta", "b", "c", "RC", "rc", "pl", "p"]
def rankInts : List Int := [10, 20, 20, 30, 30, 40, 50, 50, 200, 200]
def rankOf (word : Str) : Int := ((rankNames.zip rankInts).lookup word).getD 0
theorem rank_in : ∀ x ∈ rankNames, rankInts[rankNames.idxOf x]? = some (rankOf x) := by decide +kernel
theorem lookup_out {x : Str} : ∀ (l : List (Str × Int)), ((l.map (·.1)).any fun y => y == x) = false → l.lookup x = none
  | [], _ => rfl
  | (k, v) :: r, h => by
    rw [List.map_cons, List.any_cons, Bool.or_eq_false_iff] at h
    have h1 : (x == k) = false := by
      have := h.1
      rw [beq_eq_false_iff_ne] at this ⊢
      exact Ne.symm this
    rw [List.lookup_cons, h1]
    exact lookup_out r h.2
theorem rank_out {x : Str} (h : (rankNames.any fun y => y == x) = false) : rankOf x = 0 := by
  unfold rankOf
  rw [lookup_out (rankNames.zip rankInts) h]
  rfl

section
variable {w : World} {A : Around} {E : Value → Shared → Prop} {s : Shared} {mean : ExcName → Option Value} {mg mb : Str → Option Value} {loose : List Str} {base : Heap} {envs : List Env}

theorem rank_call {word : Str} {t : Tok} {Q : Value → Shared → Prop} (X : (hd.heap_39 w.params).In s.heap) (T : Top hd.view_39 loose mean mg mb s.heap) (hroom : A.depth < recursionLimit)
    (h : ∀ h' tk t', s.heap.StaysIn h' → Q (.int (rankOf word) t') { s with heap := h', toks := tk }) :
    wpAny (model PySem.Challenge.rw_dz0075_01.row.prog w) A (call (.ref 51) [.str word t]) Q E s := by
  revert X
  k_fill
  intro X
  refine wpAny_call ?_
  refine' call_base X T.nolimit ?k6 ?k7 hroom ?k9 ?kB ?_ ?c2 ?c3 ?c4 ?c5
  case k6 => k_is
  case k7 => k_is
  case k9 => exact BindsTo.of_eq rfl
  case kB => exact locs rfl
  case c2 => exact rfl
  case c3 => exact rfl
  case c4 => exact rfl
  case c5 => decide
  intro h₁ F N
  (try dsimp only)
  k_fold
  k_steps
  · rename News _ _ _ _ => N'
    rename Fr _ _ _ _ => F'
    rename (List.any _ _ = true) => ha
    have hmem : word ∈ rankNames := by
      obtain ⟨y, hy, e⟩ := List.any_eq_true.mp ha
      have e' : y = word := eq_of_beq e
      rw [← e']; exact hy
    refine index_N (ys := rankNames) N' (by k_mem) (by unfold rankNames; repeat (first | exact .nil | refine .cons _ _ ?_)) hmem (by decide) ?_
    refine item_N (ns := rankInts) N' (by k_mem) (by unfold rankInts; repeat (first | exact .nil | refine .cons _ _ ?_)) (by decide) (rank_in word hmem) ?_
    intro t'
    k_unfold
    exact h _ _ _ F'.keep
  · rename Fr _ _ _ _ => F'
    rename (List.any _ _ = false) => ha
    have e := rank_out ha
    show qk (Flow.ret (Value.int 0 _)) _
    k_unfold
    dsimp only
    rw [← e]
    exact h _ _ _ F'.keep
end
end Mine
end

section
open PySem PySem.W PyProof.Rows PySem.Calls
set_option maxRecDepth 100000
set_option maxHeartbeats 8000000
namespace Mine
theorem calm_C6 : True := by
  w_top off
  trivial

section
variable {M : Model} {A : Around} {E : Value → Shared → Prop} {s : Shared} {env : Env}
theorem execs_append (l1 l2 : List Stmt) : execs (l1 ++ l2) env = (execs l1 env >>= fun f => match f with | .next => execs l2 env | f => pure f) := by
  induction l1 with
  | nil => rfl
  | cons a r ih =>
    show execs (a :: (r ++ l2)) env = _
    rw [execs_cons, execs_cons, ih, bind_assoc]
    congr 1
    funext f
    cases f <;> rfl
theorem execs_cut {l1 l2 : List Stmt} {Q : Flow → Shared → Prop} (h : wpAny M A (execs l1 env) (fun f s' => Stop (match f with | .next => wpAny M A (execs l2 env) Q E s' | f => Q f s')) E s) : wpAny M A (execs (l1 ++ l2) env) Q E s := by
  rw [execs_append]
  refine wpAny_bind (wpAny_mono h (fun f s' h' => ?_) fun _ _ x => x)
  cases f <;> first | exact h' | exact wpAny_pure h'
theorem execs_cutC {l1 l2 : List Stmt} {Q : Flow → Shared → Prop} (h : wpAny M A (execs l1 env) (fun f s' => Stop (match f with | .next => wpC M A (execs l2 env) Q E s' | f => Q f s')) E s) : wpC M A (execs (l1 ++ l2) env) Q E s := by
  rw [execs_append]
  refine wpC_bindA (wpAny_mono h (fun f s' h' => ?_) fun _ _ x => x)
  cases f <;> first | exact h' | exact wpC_pure h'
end

section
variable {prog : Program} {w : World} {A : Around} {s : Shared} {env : Env}
/-- a loop over what walks, nothing raised out of it -/
theorem wpA_For {Q : Flow → Shared → Prop} {E : Value → Shared → Prop} {x : Str} {px pos : Pos} {iter : Expr} {body : List Stmt}
    (h : wpAny (model prog w) A (eval iter env) (fun xv s₁ => Stop (wpAny (model prog w) A (pyIter xv) (fun it s₂ =>
      ∃ (I : Addr) (fp wr : List Addr) (n : Nat) (P : Nat → Value → Prop) (St : Nat → Heap → Prop) (J : Nat → Shared → Prop), it = .ref I ∧ Walks prog w A I fp wr n P St ∧ St 0 s₂.heap ∧ J 0 s₂ ∧
        (∀ i s₃ v h₁ tk, i < n → St i s₃.heap → J i s₃ → P i v → St (i + 1) h₁ → (∀ b o, b ∉ wr → s₃.heap.get? b = some o → h₁.get? b = some o) →
          wpAny (model prog w) A (storeName env x v) (fun _ s₄ => wpAny (model prog w) A (execs body env) (fun f s₅ => match f with
            | .next | .cont => St (i + 1) s₅.heap ∧ J (i + 1) s₅
            | .brk => Q .next s₅
            | .ret v => Q (.ret v) s₅) (fun _ _ => False) s₄) (fun _ _ => False) { s₃ with heap := h₁, toks := tk }) ∧
        ∀ s₃ h' tk, St n s₃.heap → J n s₃ → (∀ b o, b ∉ wr → s₃.heap.get? b = some o → h'.get? b = some o) → Q .next { s₃ with heap := h', toks := tk }) E s₁)) E s)
    (hs : ∀ x, foldedSetIterable iter env x = pure x := by intro _; rfl) :
    wpAny (model prog w) A (exec (.For (.Name x px) iter body [] pos) env) Q E s := by
  show wpAny _ A (do
    standAt pos
    let x ← foldedSetIterable iter env (← eval iter env)
    standAt iter.pos
    runOwn (.forLoop (.Name _ px) (← holding [x] (pyIter x)) body [] env) env) Q E s
  refine wpAny_bind (wpAny_standAt (wpAny_bind (wpAny_mono h (fun xv s₁ h₁ => ?_) fun _ _ e => e)))
  rw [hs xv]
  refine wpAny_bind (wpAny_pure (wpAny_bind (wpAny_standAt (wpAny_bind (wpAny_holding (wpAny_mono h₁ (fun it s₂ h₂ => ?_) fun _ _ e => e))))))
  obtain ⟨I, fp, wr, n, P, St, J, rfl, W, hst, hJ, turn, done⟩ := h₂
  unfold runOwn
  refine wpAny_onRaise (wpAny_mono (E := fun _ _ => False) (wpAny_run ?_) (fun _ _ x => x) fun _ _ x => x.elim)
  have up : ∀ {α : Type} {t : Sem α} {Q' : α → Shared → Prop} {R : Value → Shared → Prop} {s' : Shared}, wpAny (model prog w) A t Q' (fun _ _ => False) s' → wpAny (model prog w) A t Q' R s' :=
    fun h => wpAny_mono h (fun _ _ x => x) fun _ _ x => x.elim
  refine codeAny_forLoop_any (fun k s' => ∃ i, i ≤ n ∧ k = n + 1 - i ∧ St i s'.heap ∧ J i s') ?_ (n + 1) ⟨0, Nat.zero_le _, rfl, hst, hJ⟩
  rintro k s' ⟨i, hi, rfl, hst', hJ'⟩
  rcases Nat.lt_or_ge i n with hlt | hge
  · refine W.item i s' _ _ hlt hst' fun v h₁ tk hP hst₁ hk => ?_
    refine wpAny_pure (wpAny_assign_Name (up (wpAny_mono (turn i s' v h₁ tk hlt hst' hJ' hP hst₁ hk) (fun _ s₄ h₄ => up (wpAny_mono h₄ (fun f s₅ h₅ => ?_) fun _ _ x => x)) fun _ _ x => x)))
    cases f with
    | next => exact ⟨n + 1 - (i + 1), by omega, i + 1, hlt, rfl, h₅⟩
    | cont => exact ⟨n + 1 - (i + 1), by omega, i + 1, hlt, rfl, h₅⟩
    | brk => exact h₅
    | ret v => exact h₅
  · have e : i = n := by omega
    subst e
    exact W.done s' _ _ hst' fun h' tk hk => (fun _ _ _ => done s' h' tk hst' hJ' hk)
end
end Mine
end

section
open PySem PySem.W PyProof.Rows PySem.Calls
set_option maxRecDepth 100000
set_option maxHeartbeats 8000000
namespace Mine
theorem calm_C7 : True := by
  w_top off
  trivial

def funBody (o : Obj) : List Stmt := match o with
  | ⟨_, _, .func fd, _⟩ => (match fd.body with | .stmts l => l | _ => [])
  | _ => []
def funScope (o : Obj) : Scope := match o with
  | ⟨_, _, .func fd, _⟩ => fd.scope
  | _ => { kind := .function, names := [], isGenerator := false, isCoroutine := false, more := [] }
/-- the body of the loop that stands third -/
def loop3 (l : List Stmt) : List Stmt := match l with
  | _ :: _ :: .For _ _ b _ _ :: _ => b
  | _ => []
theorem elimO {a : Option Obj} {o : Obj} {P : Obj → Prop} (hk : a = some o) (h : P o) : ∀ o', a = some o' → P o' := fun o' e => by
  rw [hk] at e
  exact Option.some.inj e ▸ h

section
variable {h₀ h h' : Heap} {L : Addr} {m : Str → Option Value} {news : List (Addr × Obj)}
theorem Fr.stays (F : Fr h₀ L h m) (k : h.StaysIn h') : Fr h₀ L h' m := by
  obtain ⟨o, es, ep, ho, r⟩ := F.ns
  exact ⟨⟨o, es, ep, k _ _ ho, r⟩, fun b o e => k _ _ (F.keep b o e), F.above⟩
theorem News.stays (N : News h₀ L h news) (k : h.StaysIn h') : News h₀ L h' news := fun p hp => ⟨k _ _ (N p hp).1, (N p hp).2⟩
end

section
variable {prog : Program} {w : World} {A : Around} {E : Value → Shared → Prop} {s : Shared} {h₀ : Heap} {L D b : Addr} {m : Str → Option Value} {news news' : List (Addr × Obj)} {us vs : List Value} {n n2 : Nat}

theorem last_K {value slice : PySem.Expr} {v : Value} {u : Tok} {Q : Value → Shared → Prop} (N : News h₀ L s.heap news) (hm : (D, W.listOf (us ++ [v]).toArray n) ∈ news) (h : Q v s)
    (hs : subscripted slice false (.ref D) (.int (-1) u) = operate [.ref D, .int (-1) u] (getItem (.ref D) (.int (-1) u)) := by with_unfolding_all rfl) :
    wpAny (model prog w) A (subscriptTail value slice (.ref D) (.int (-1) u)) Q E s := by
  have hL := isList_N N hm
  refine tail_any hL.typeIs slot_list_getitem.lookup (wpAny_getItem_list_neg hL (by decide) ?_ (by decide) ?_ h) hs
  · simp; omega
  · have : ((-1 : Int) + ((us ++ [v]).toArray.size : Nat)).toNat = us.length := by simp; omega
    rw [this]; simp

theorem setItem_neg {l : Addr} {items : Array Value} {k : Int} {t : Tok} {v : Value} {Q : Unit → Shared → Prop} (hl : s.heap.IsList l items)
    (h0 : k < 0) (h1 : -(items.size : Int) ≤ k) (hfit : -(2 ^ 63) ≤ k)
    (hQ : ∀ o n, s.heap.get? l = some o → o.data = .seq items n → Q () { s with heap := s.heap.update l (Obj.mapSeq (·.setIfInBounds (k + items.size).toNat v)) }) :
    wpAny (model prog w) A (setItem (.ref l) (.int k t) v) Q E s := by
  obtain ⟨o, ho, hc, ne, hd⟩ := id hl
  unfold setItem
  refine wpAny_holding ?_
  refine wpAny_bind (wpAny_sequenceKey hl.typeIs (by decide) ?_)
  refine wpAny_bind (wpAny_callSpecial?_slot (name := Str.ofString "__setitem__") hl.typeIs slot_list_setitem
    (wpAny_call_entry slot_list_setitem hl.typeIs entry_list_setitem ?_ (args_list_setitem _ _ _)))
  show wpAny _ _ (Builtin.List.listSubscript? (.int k t) >>= _) _ _ s
  refine wpAny_bind (wpAny_listSubscript_int (fitsIndex_neg h0 hfit) ?_)
  clear hfit
  have hidx := seqIndex_neg h0 h1
  have hlt : (k + items.size).toNat < items.size := by omega
  have hx' : items[(k + items.size).toNat]? = some items[(k + items.size).toNat] := Array.getElem?_eq_getElem hlt
  obtain ⟨j, rfl⟩ : ∃ j : Nat, k = Int.negSucc j := by
    cases k with
    | ofNat n => exact absurd h0 (Int.not_lt.mpr (Int.natCast_nonneg n))
    | negSucc n => exact ⟨n, rfl⟩
  show wpAny _ _ ((Builtin.List.listItems (.ref l) >>= fun xs => pure ((seqIndex? (Int.negSucc j) xs.size).bind fun i => xs[i]?.map (i, ·))) >>= _) _ _ s
  refine wpAny_bind (wpAny_bind ?_)
  show wpAny _ _ (seqItems? (.ref l) >>= _) _ _ s
  refine wpAny_bind (wpAny_seqItems ho hd (wpAny_pure (wpAny_pure ?_)))
  rw [hidx]
  simp only [Option.bind_some, hx', Option.map_some]
  show wpAny _ _ (setSeqItemAt l _ v >>= _) _ _ s
  refine wpAny_bind (wpAny_setSeqItemAt ho hd ?_)
  exact wpAny_pure ⟨.none, rfl, wpAny_pure (hQ o ne ho hd)⟩

theorem setLast_K {v₀ v : Value} {u : Tok} {Q : Unit → Shared → Prop} (F : Fr h₀ L s.heap m) (N : News h₀ L s.heap news) (U : Upd D (W.listOf (us ++ [v₀]).toArray n) (W.listOf (us ++ [v]).toArray n) news news')
    (h : ∀ h', Fr h₀ L h' m → News h₀ L h' news' → Q () { s with heap := h' }) : wpAny (model prog w) A (setItem (.ref D) (.int (-1) u) v) Q E s := by
  obtain ⟨pre, post, rfl, rfl, a, c⟩ := U.split
  have z := N (D, W.listOf (us ++ [v₀]).toArray n) (List.mem_append.mpr (.inr (.head _)))
  have hL : s.heap.IsList D (us ++ [v₀]).toArray := ⟨_, z.1, rfl, n, rfl⟩
  refine setItem_neg hL (by decide) (by simp; omega) (by decide) fun o k ho hk => ?_
  have e : ((-1 : Int) + ((us ++ [v₀]).toArray.size : Nat)).toNat = us.length := by simp; omega
  rw [e]
  refine h _ (F.change (Heap.SameBut.update ..) z.2.1 z.2.2) (kl_turn0 _ N a c ?_ (by simp))
  apply Array.toList_inj.mp
  simp

theorem fillsI_list : fillsInplaceSlot (.type "list") "add" (Operator.Add == .Add) = pure false := by
  unfold fillsInplaceSlot
  show (typeLookup (.type "list") (dunderI "add") >>= fun fi => pure (fi.isSome && !isSeqSlot fi)) = pure false
  rw [PySem.F.slot_list_iadd.lookup]
  rfl
theorem seqI_list : seqSlot? (.type "list") (dunderI "add") = pure (some (.builtin "list.__iadd__")) := by
  unfold seqSlot?
  rw [PySem.F.slot_list_iadd.lookup]
  rfl
theorem fillsN_list : fillsNumberSlot (.type "list") "add" = pure false := noFill_list_add

theorem iadd_K {its its2 : Array Value} {l : List Value} {Q : Value → Shared → Prop} (F : Fr h₀ L s.heap m) (N : News h₀ L s.heap news) (hb : (b, W.listOf its2 n2) ∈ news) (e : its.toList ++ its2.toList = l) (hne : its2.toList.length ≠ 0)
    (U : Upd D (W.listOf its n) (W.listOf l.toArray (n + 1)) news news') (hz : l.length ≤ 100000)
    (h : ∀ h', Fr h₀ L h' m → News h₀ L h' news' → Q (.ref D) { s with heap := h' }) : wpAny (model prog w) A (inplaceOp .Add (.ref D) (.ref b)) Q E s := by
  obtain ⟨pre, post, rfl, rfl, a, c⟩ := U.split
  have z := N (D, W.listOf its n) (List.mem_append.mpr (.inr (.head _)))
  have hT : s.TypeIs (.ref D) "list" := ⟨_, z.1, rfl⟩
  have hT2 : s.TypeIs (.ref b) "list" := ⟨_, (N _ hb).1, rfl⟩
  have hsz : its.size + its2.size ≤ 100000 := by
    have := congrArg List.length e
    simp at this
    omega
  unfold inplaceOp
  refine wpAny_holding ?_
  refine wpAny_bind (wpAny_typeOf hT (wpAny_bind (wpAny_of_eq fillsI_list ?_)))
  show wpAny _ A (if false = true then _ else _) Q E s
  rw [if_neg Bool.false_ne_true]
  refine wpAny_bind (binaryOp1_none (nm := "add") hT hT2 fillsN_list ?_)
  refine wpAny_bind (wpAny_of_eq seqI_list ?_)
  refine wpAny_bind (wpAny_rule ?_)
  refine call_meets PySem.F.slot_list_iadd hT PySem.F.entry_list_iadd (PySem.F.args_list_iadd_2 _ _) (PySem.AutoSeq1.list___iadd___list_list_0 D its n b its2 n2 ?_ ?_ ?_) ⟨z.1, (N _ hb).1, h _ (F.change (Heap.SameBut.update ..) z.2.1 z.2.2) (kl_turn _ N a c ?_ ?_)⟩
  · have : Builtin.List.listTooLong (its.size + its2.size) = false := by
      unfold Builtin.List.listTooLong
      rw [decide_eq_false_iff_not, sizeLine_eq]
      omega
    rw [this, Bool.and_false]
    exact Bool.false_ne_true
  · rw [sizeLine_eq]; omega
  · rw [sizeLine_eq]; omega
  · subst e
    apply Array.toList_inj.mp
    simp
  · subst e
    simp at hne ⊢
    exact hne

theorem pick2 {x y : Value} : kms_pick (us ++ [x] ++ [y]).toArray.toList none (some (-2)) = us := by
  unfold kms_pick kms_lo kms_hi
  simp
end

section
variable {w : World} {A : Around} {E : Value → Shared → Prop} {s : Shared} {mean : ExcName → Option Value} {mg mb : Str → Option Value} {loose : List Str} {h₀ : Heap} {L : Addr} {m : Str → Option Value} {news : List (Addr × Obj)}
theorem rank_K {word : Str} {t : Tok} {Q : Value → Shared → Prop} (F : Fr h₀ L s.heap m) (X : (hd.heap_39 w.params).In h₀) (N : News h₀ L s.heap news) (T : Top hd.view_39 loose mean mg mb h₀) (hroom : A.depth < recursionLimit)
    (h : ∀ h' tk t', Fr h₀ L h' m → News h₀ L h' news → Q (.int (rankOf word) t') { s with heap := h', toks := tk }) :
    wpAny (model PySem.Challenge.rw_dz0075_01.row.prog w) A (call (.ref 51) [.str word t]) Q E s :=
  rank_call (X.keeps F.keep) (T.keeps F.keep) hroom fun h' tk t' k => h h' tk t' (Fr.stays F k) (News.stays N k)
end
end Mine
end

section
open PySem PySem.W PyProof.Rows PySem.Calls
set_option maxRecDepth 100000
set_option maxHeartbeats 8000000
namespace Mine
theorem calm_C8 : True := by
  w_top off
  trivial

local macro_rules | `(tactic| walk_at "subscriptTail Name UnaryOp ref int") => `(tactic| (k_here; (with_reducible show wpAny _ _ (subscriptTail _ _ (Value.ref _) (Value.int _ _)) _ _ _); k_dflt (refine' last_K ?k1 ?k2 ?_ ?k3; (case k1 => k_asm); (case k2 => k_mem); (case k3 => with_unfolding_all rfl); k_whole)))
local macro_rules | `(tactic| walk_at "call ref") => `(tactic| (k_here; (with_reducible show wpAny _ _ (call (Value.ref 51) [Value.str _ _]) _ _ _); k_dflt (refine' rank_K ?k1 ?k2 ?k3 ?k4 ?k5 ?_; (case k1 => k_asm); (case k2 => k_asm); (case k3 => k_asm); (case k4 => k_asm); (case k5 => assumption); k_whole); intro h' tk' t' F' N'; (try k_sweep)))
local macro_rules | `(tactic| walk_at "call builtin:str.index") => `(tactic| (k_here; (refine SC.index (by assumption) ?_)))
local macro_rules | `(tactic| walk_at "subscriptTail Name Slice ref ref") => `(tactic| (k_here; (with_reducible show wpAny _ _ (subscriptTail _ (PySem.Expr.Slice _ _ none _) (Value.ref _) (Value.ref _)) _ _ _); k_dflt (refine' kms_slice_lit ?F ?N ?l ?p ?q ?e ?_ ?s ?t ?z; (case F => k_asm); (case N => k_asm); (case l => kmk_list); (case p => kmk_part); (case q => kmk_part); (case e => exact pick2); (case s => with_unfolding_all rfl); (case t => kmk_pure); (case z => (rw [sizeLine_eq]; simp only [List.size_toArray, List.length_append, List.length_cons, List.length_nil]; omega))); intro D' h' F' N' l1; (try k_lt l1); (try k_sweep)))
local macro_rules | `(tactic| walk_at "inplaceOp Add ref") => `(tactic| (k_here; k_dflt (refine' iadd_K ?F ?N ?b ?e ?ne ?U ?z ?_; (case F => k_asm); (case N => k_asm); (case b => k_mem); (case e => exact (List.append_assoc _ [_] [_]).symm); (case ne => (intro z; cases z)); (case U => k_upd); (case z => (simp only [List.length_append, List.length_cons, List.length_nil]; omega)); k_whole); intro h' F' N'; (try k_sweep)))
local macro_rules | `(tactic| walk_at "setItem ref int") => `(tactic| (k_here; k_dflt (refine' setLast_K ?F ?N ?U ?_; (case F => k_asm); (case N => k_asm); (case U => k_upd); k_whole); intro h' F' N'; (try k_sweep)))

theorem Fr.norm {h₀ h : Heap} {L : Addr} {m : Str → Option Value} {v1 v2 : Value} (F : Fr h₀ L h m) (e1 : m (Str.ofString "told") = some v1) (e2 : m (Str.ofString "ahead") = some v2) :
    Fr h₀ L h (fun y => if y = Str.ofString "told" then some v1 else if y = Str.ofString "ahead" then some v2 else m y) := by
  have e : (fun y => if y = Str.ofString "told" then some v1 else if y = Str.ofString "ahead" then some v2 else m y) = m := by
    funext y
    by_cases h1 : y = Str.ofString "told"
    · rw [if_pos h1, h1, e1]
    · rw [if_neg h1]
      by_cases h2 : y = Str.ofString "ahead"
      · rw [if_pos h2, h2, e2]
      · rw [if_neg h2]
  rw [e]; exact F
theorem News.two {h₀ h : Heap} {L a I : Addr} {o1 o2 : Obj} {news : List (Addr × Obj)} (N : News h₀ L h news) (h1 : (a, o1) ∈ news) (h2 : (I, o2) ∈ news) : News h₀ L h [(a, o1), (I, o2)] := fun p hp => by
  rcases List.mem_cons.mp hp with rfl | hp
  · exact N _ h1
  · rw [List.mem_singleton.mp hp]; exact N _ h2

section
variable {prog : Program} {w : World} {A : Around} {E : Value → Shared → Prop} {s : Shared} {mean : ExcName → Option Value} {mg mb : Str → Option Value} {loose : List Str} {base : Heap} {envs : List Env}

theorem turn_dn {Q : Flow → Shared → Prop} {a I L : Addr} {n : Nat} {oI : Obj} {ta tv : Tok} {c : Nat} {u : Str → Option Value} {h₀ : Heap} {us : List Value} {x1 : Value} {k : Int} {t2 : Tok} {i : Nat} {rest : List Nat}
    (X : (hd.heap_39 w.params).In h₀) (T : Top hd.view_39 loose mean mg mb h₀) (hroom : (A.deeper (envOf (Str.ofString "_law_told") { kind := .function, names := [], isGenerator := false, isCoroutine := false, more := [] } 0 0 .none)).depth < recursionLimit)
    (F : Fr h₀ L s.heap (fun y => if y = Str.ofString "sign" then some (.str ⟨#[c]⟩ tv) else if y = Str.ofString "told" then some (.ref a) else if y = Str.ofString "ahead" then some (.str (Str.ofString "0") ta) else u y))
    (N : News h₀ L s.heap [(a, W.listOf (us ++ [x1] ++ [Value.int k t2]).toArray n), (I, oI)]) (hne : @Ne Nat a I)
    (hsep : (Builtin.Str.occurrences (Str.ofString "._+-") { cps := #[c] } 0 (Str.ofString "._+-").length 1).isEmpty = true) (h0 : ¬{ cps := #[c] : Str }.cps.toList < (Str.ofString "0").cps.toList) (h9 : ¬(Str.ofString "9").cps.toList < { cps := #[c] : Str }.cps.toList) (hix : Builtin.Str.occurrences (Str.ofString "0123456789") { cps := #[c] } 0 (Str.ofString "0123456789").length 1 = i :: rest) (hlen : us.length ≤ 1000)
    (hQ : ∀ h' tk a' vs' n' (u' : Str → Option Value) t' t3, Fr h₀ L h' (fun y => if y = Str.ofString "told" then some (.ref a') else if y = Str.ofString "ahead" then some (.str (Str.ofString "0") t') else u' y) → News h₀ L h' [(a', W.listOf (vs' : List Value).toArray n'), (I, oI)] → @Ne Nat a' I →
      vs' = us ++ [x1] ++ [Value.int (k * 10 + (i : Int)) t3] → Q .next { s with heap := h', toks := tk }) :
    ∀ o, (hd.heap_39 w.params).lookup 58 = some o →
    wpAny (model PySem.Challenge.rw_dz0075_01.row.prog w) (A.deeper (envOf (Str.ofString "_law_told") (funScope o) L 58 (.ref 57))) (execs (loop3 (funBody o)) (envOf (Str.ofString "_law_told") (funScope o) L 58 (.ref 57))) Q (fun _ _ => False) s := by
  revert X
  k_fill
  intro X
  refine' elimO ?hk ?_
  case hk => k_is
  dsimp only [funBody, funScope, loop3]
  obtain ⟨hp, gs, dr, tk, os⟩ := s
  dsimp only at F N ⊢
  k_steps
  rename Fr _ _ _ _ => F'
  rename News _ _ _ _ => N'
  refine hQ _ _ _ _ _ _ _ _ (Fr.norm F' rfl rfl) (News.two N' (by k_mem) (by k_mem)) (by first | exact hne | omega) rfl

theorem turn_do {Q : Flow → Shared → Prop} {a I L : Addr} {n : Nat} {oI : Obj} {ta tv : Tok} {c : Nat} {u : Str → Option Value} {h₀ : Heap} {us : List Value} {ah : Str} {i : Nat} {rest : List Nat}
    (X : (hd.heap_39 w.params).In h₀) (T : Top hd.view_39 loose mean mg mb h₀) (hroom : (A.deeper (envOf (Str.ofString "_law_told") { kind := .function, names := [], isGenerator := false, isCoroutine := false, more := [] } 0 0 .none)).depth < recursionLimit)
    (F : Fr h₀ L s.heap (fun y => if y = Str.ofString "sign" then some (.str ⟨#[c]⟩ tv) else if y = Str.ofString "told" then some (.ref a) else if y = Str.ofString "ahead" then some (.str ah ta) else u y))
    (N : News h₀ L s.heap [(a, W.listOf (us).toArray n), (I, oI)]) (hne : @Ne Nat a I)
    (hsep : (Builtin.Str.occurrences (Str.ofString "._+-") { cps := #[c] } 0 (Str.ofString "._+-").length 1).isEmpty = true) (h0 : ¬{ cps := #[c] : Str }.cps.toList < (Str.ofString "0").cps.toList) (h9 : ¬(Str.ofString "9").cps.toList < { cps := #[c] : Str }.cps.toList) (hix : Builtin.Str.occurrences (Str.ofString "0123456789") { cps := #[c] } 0 (Str.ofString "0123456789").length 1 = i :: rest) (hlen : us.length ≤ 1000) (hah : (ah == Str.ofString "0") = false)
    (hQ : ∀ h' tk a' vs' n' (u' : Str → Option Value) t' t3 t4, Fr h₀ L h' (fun y => if y = Str.ofString "told" then some (.ref a') else if y = Str.ofString "ahead" then some (.str (Str.ofString "0") t') else u' y) → News h₀ L h' [(a', W.listOf (vs' : List Value).toArray n'), (I, oI)] → @Ne Nat a' I →
      vs' = us ++ [Value.int 100 t3] ++ [Value.int (i : Int) t4] → Q .next { s with heap := h', toks := tk }) :
    ∀ o, (hd.heap_39 w.params).lookup 58 = some o →
    wpAny (model PySem.Challenge.rw_dz0075_01.row.prog w) (A.deeper (envOf (Str.ofString "_law_told") (funScope o) L 58 (.ref 57))) (execs (loop3 (funBody o)) (envOf (Str.ofString "_law_told") (funScope o) L 58 (.ref 57))) Q (fun _ _ => False) s := by
  revert X
  k_fill
  intro X
  refine' elimO ?hk ?_
  case hk => k_is
  dsimp only [funBody, funScope, loop3]
  obtain ⟨hp, gs, dr, tk, os⟩ := s
  dsimp only at F N ⊢
  k_steps
  rename Fr _ _ _ _ => F'
  rename News _ _ _ _ => N'
  refine hQ _ _ _ _ _ _ _ _ _ (Fr.norm F' rfl rfl) (News.two N' (by k_mem) (by k_mem)) (by first | exact hne | omega) rfl

theorem turn_s {Q : Flow → Shared → Prop} {a I L : Addr} {n : Nat} {oI : Obj} {ta tv : Tok} {c : Nat} {u : Str → Option Value} {h₀ : Heap} {us : List Value} {ah : Str}
    (X : (hd.heap_39 w.params).In h₀) (T : Top hd.view_39 loose mean mg mb h₀) (hroom : (A.deeper (envOf (Str.ofString "_law_told") { kind := .function, names := [], isGenerator := false, isCoroutine := false, more := [] } 0 0 .none)).depth < recursionLimit)
    (F : Fr h₀ L s.heap (fun y => if y = Str.ofString "sign" then some (.str ⟨#[c]⟩ tv) else if y = Str.ofString "told" then some (.ref a) else if y = Str.ofString "ahead" then some (.str ah ta) else u y))
    (N : News h₀ L s.heap [(a, W.listOf (us).toArray n), (I, oI)]) (hne : @Ne Nat a I)
    (hsep : (Builtin.Str.occurrences (Str.ofString "._+-") { cps := #[c] } 0 (Str.ofString "._+-").length 1).isEmpty = false)
    (hQ : ∀ h' tk a' vs' n' (u' : Str → Option Value) t' , Fr h₀ L h' (fun y => if y = Str.ofString "told" then some (.ref a') else if y = Str.ofString "ahead" then some (.str (Str.ofString ".") t') else u' y) → News h₀ L h' [(a', W.listOf (vs' : List Value).toArray n'), (I, oI)] → @Ne Nat a' I →
      vs' = us → Q .next { s with heap := h', toks := tk }) :
    ∀ o, (hd.heap_39 w.params).lookup 58 = some o →
    wpAny (model PySem.Challenge.rw_dz0075_01.row.prog w) (A.deeper (envOf (Str.ofString "_law_told") (funScope o) L 58 (.ref 57))) (execs (loop3 (funBody o)) (envOf (Str.ofString "_law_told") (funScope o) L 58 (.ref 57))) Q (fun _ _ => False) s := by
  revert X
  k_fill
  intro X
  refine' elimO ?hk ?_
  case hk => k_is
  dsimp only [funBody, funScope, loop3]
  obtain ⟨hp, gs, dr, tk, os⟩ := s
  dsimp only at F N ⊢
  k_steps
  rename Fr _ _ _ _ => F'
  rename News _ _ _ _ => N'
  refine hQ _ _ _ _ _ _ _  (Fr.norm F' rfl rfl) (News.two N' (by k_mem) (by k_mem)) (by first | exact hne | omega) rfl

theorem turn_wn {Q : Flow → Shared → Prop} {a I L : Addr} {n : Nat} {oI : Obj} {ta tv : Tok} {c : Nat} {u : Str → Option Value} {h₀ : Heap} {us : List Value} {x1 : Value} {x : Str} {t2 : Tok}
    (X : (hd.heap_39 w.params).In h₀) (T : Top hd.view_39 loose mean mg mb h₀) (hroom : (A.deeper (envOf (Str.ofString "_law_told") { kind := .function, names := [], isGenerator := false, isCoroutine := false, more := [] } 0 0 .none)).depth < recursionLimit)
    (F : Fr h₀ L s.heap (fun y => if y = Str.ofString "sign" then some (.str ⟨#[c]⟩ tv) else if y = Str.ofString "told" then some (.ref a) else if y = Str.ofString "ahead" then some (.str (Str.ofString "a") ta) else u y))
    (N : News h₀ L s.heap [(a, W.listOf (us ++ [x1] ++ [Value.str x t2]).toArray n), (I, oI)]) (hne : @Ne Nat a I)
    (hsep : (Builtin.Str.occurrences (Str.ofString "._+-") { cps := #[c] } 0 (Str.ofString "._+-").length 1).isEmpty = true) (h0 : ¬{ cps := #[c] : Str }.cps.toList < (Str.ofString "0").cps.toList) (h9 : (Str.ofString "9").cps.toList < { cps := #[c] : Str }.cps.toList) (hlen : us.length ≤ 1000) (hx : x.length ≤ 1000)
    (hQ : ∀ h' tk a' vs' n' (u' : Str → Option Value) t' t3 t4, Fr h₀ L h' (fun y => if y = Str.ofString "told" then some (.ref a') else if y = Str.ofString "ahead" then some (.str (Str.ofString "a") t') else u' y) → News h₀ L h' [(a', W.listOf (vs' : List Value).toArray n'), (I, oI)] → @Ne Nat a' I →
      vs' = us ++ [Value.int (rankOf (x ++ ⟨#[c]⟩)) t3] ++ [Value.str (x ++ ⟨#[c]⟩) t4] → Q .next { s with heap := h', toks := tk }) :
    ∀ o, (hd.heap_39 w.params).lookup 58 = some o →
    wpAny (model PySem.Challenge.rw_dz0075_01.row.prog w) (A.deeper (envOf (Str.ofString "_law_told") (funScope o) L 58 (.ref 57))) (execs (loop3 (funBody o)) (envOf (Str.ofString "_law_told") (funScope o) L 58 (.ref 57))) Q (fun _ _ => False) s := by
  revert X
  k_fill
  intro X
  refine' elimO ?hk ?_
  case hk => k_is
  dsimp only [funBody, funScope, loop3]
  obtain ⟨hp, gs, dr, tk, os⟩ := s
  dsimp only at F N ⊢
  k_steps
  rename Fr _ _ _ _ => F'
  rename News _ _ _ _ => N'
  refine hQ _ _ _ _ _ _ _ _ _ (Fr.norm F' rfl rfl) (News.two N' (by k_mem) (by k_mem)) (by first | exact hne | omega) rfl

theorem turn_wo {Q : Flow → Shared → Prop} {a I L : Addr} {n : Nat} {oI : Obj} {ta tv : Tok} {c : Nat} {u : Str → Option Value} {h₀ : Heap} {us : List Value} {ah : Str}
    (X : (hd.heap_39 w.params).In h₀) (T : Top hd.view_39 loose mean mg mb h₀) (hroom : (A.deeper (envOf (Str.ofString "_law_told") { kind := .function, names := [], isGenerator := false, isCoroutine := false, more := [] } 0 0 .none)).depth < recursionLimit)
    (F : Fr h₀ L s.heap (fun y => if y = Str.ofString "sign" then some (.str ⟨#[c]⟩ tv) else if y = Str.ofString "told" then some (.ref a) else if y = Str.ofString "ahead" then some (.str ah ta) else u y))
    (N : News h₀ L s.heap [(a, W.listOf (us).toArray n), (I, oI)]) (hne : @Ne Nat a I)
    (hsep : (Builtin.Str.occurrences (Str.ofString "._+-") { cps := #[c] } 0 (Str.ofString "._+-").length 1).isEmpty = true) (h0 : ¬{ cps := #[c] : Str }.cps.toList < (Str.ofString "0").cps.toList) (h9 : (Str.ofString "9").cps.toList < { cps := #[c] : Str }.cps.toList) (hlen : us.length ≤ 1000) (hah : (ah == Str.ofString "a") = false)
    (hQ : ∀ h' tk a' vs' n' (u' : Str → Option Value) t' t3 t4, Fr h₀ L h' (fun y => if y = Str.ofString "told" then some (.ref a') else if y = Str.ofString "ahead" then some (.str (Str.ofString "a") t') else u' y) → News h₀ L h' [(a', W.listOf (vs' : List Value).toArray n'), (I, oI)] → @Ne Nat a' I →
      vs' = us ++ [Value.int (rankOf ⟨#[c]⟩) t3] ++ [Value.str ⟨#[c]⟩ t4] → Q .next { s with heap := h', toks := tk }) :
    ∀ o, (hd.heap_39 w.params).lookup 58 = some o →
    wpAny (model PySem.Challenge.rw_dz0075_01.row.prog w) (A.deeper (envOf (Str.ofString "_law_told") (funScope o) L 58 (.ref 57))) (execs (loop3 (funBody o)) (envOf (Str.ofString "_law_told") (funScope o) L 58 (.ref 57))) Q (fun _ _ => False) s := by
  revert X
  k_fill
  intro X
  refine' elimO ?hk ?_
  case hk => k_is
  dsimp only [funBody, funScope, loop3]
  obtain ⟨hp, gs, dr, tk, os⟩ := s
  dsimp only at F N ⊢
  k_steps
  rename Fr _ _ _ _ => F'
  rename News _ _ _ _ => N'
  refine hQ _ _ _ _ _ _ _ _ _ (Fr.norm F' rfl rfl) (News.two N' (by k_mem) (by k_mem)) (by first | exact hne | omega) rfl
end
end Mine
end

section
open PySem PySem.W PyProof.Rows PySem.Calls
set_option maxRecDepth 100000
set_option maxHeartbeats 8000000
namespace Mine
theorem calm_C9 : True := by
  w_top off
  trivial

inductive Cur where
  | no
  | num (n : Int)
  | word (x : Str)
def ren : Cur → List Dat
  | .no => []
  | .num n => [.int 100, .int n]
  | .word x => [.int (rankOf x), .str x]
def stepC (st : List Dat × Cur) (c : Nat) : List Dat × Cur :=
  if isSep c then (st.1 ++ ren st.2, .no)
  else if Sre.isDigit c then (match st.2 with
    | .num n => (st.1, .num (n * 10 + ((c - 48 : Nat) : Int)))
    | q => (st.1 ++ ren q, .num ((c - 48 : Nat) : Int)))
  else (match st.2 with
    | .word x => (st.1, .word (x ++ ⟨#[c]⟩))
    | q => (st.1 ++ ren q, .word ⟨#[c]⟩))
def foldC (l : List Nat) : List Dat × Cur := l.foldl stepC ([], .no)
/-- what the walk sign by sign tells -/
def toldOf (l : List Nat) : List Dat := (foldC (l ++ [46])).1

def RelC (vs : List Value) (ah : Str) : List Dat × Cur → Prop
  | (d, .no) => DatAll [] vs d ∧ (ah == Str.ofString "0") = false ∧ (ah == Str.ofString "a") = false
  | (d, .num k) => ah = Str.ofString "0" ∧ ∃ us t1 t2, vs = us ++ [Value.int 100 t1] ++ [Value.int k t2] ∧ DatAll [] us d
  | (d, .word x) => ah = Str.ofString "a" ∧ ∃ us t1 t2, vs = us ++ [Value.int (rankOf x) t1] ++ [Value.str x t2] ∧ DatAll [] us d

theorem RelC.out {vs : List Value} {ah : Str} {st : List Dat × Cur} (h : RelC vs ah st) : DatAll [] vs (st.1 ++ ren st.2) := by
  obtain ⟨d, q⟩ := st
  cases q with
  | no => simpa [ren] using h.1
  | num k =>
    obtain ⟨_, us, t1, t2, rfl, hd⟩ := h
    rw [List.append_assoc]
    exact hd.append (.cons (.int _ _) (.cons (.int _ _) .nil))
  | word x =>
    obtain ⟨_, us, t1, t2, rfl, hd⟩ := h
    rw [List.append_assoc]
    exact hd.append (.cons (.int _ _) (.cons (.str _ _) .nil))

def okC (c : Nat) : Bool := isSep c || Sre.isDigit c || isLet c

theorem seps_are : (Str.ofString "._+-").cps.toList = [46, 95, 43, 45] := by decide +kernel
theorem sep_occ (c : Nat) : (Builtin.Str.occurrences (Str.ofString "._+-") { cps := #[c] } 0 (Str.ofString "._+-").length 1).isEmpty = !isSep c := by
  have h := StrLaws.found_one (Str.ofString "._+-") c
  rw [seps_are] at h
  have e : decide (c ∈ [46, 95, 43, 45]) = isSep c := by
    unfold isSep
    simp only [List.mem_cons, List.not_mem_nil, or_false]
    rw [Bool.eq_iff_iff]
    simp only [decide_eq_true_eq, Bool.or_eq_true, beq_iff_eq]
    omega
  rw [e] at h
  rw [← h, Bool.not_not]
theorem lt_zero (c : Nat) : ({ cps := #[c] : Str }.cps.toList < (Str.ofString "0").cps.toList) ↔ c < 48 := by
  have : (Str.ofString "0").cps.toList = [48] := by decide +kernel
  rw [this]
  simp [List.cons_lt_cons_iff]
theorem lt_nine (c : Nat) : ((Str.ofString "9").cps.toList < { cps := #[c] : Str }.cps.toList) ↔ 57 < c := by
  have : (Str.ofString "9").cps.toList = [57] := by decide +kernel
  rw [this]
  simp [List.cons_lt_cons_iff]
theorem fig_occ0 : ∀ c, c < 10 → Builtin.Str.occurrences (Str.ofString "0123456789") { cps := #[48 + c] } 0 (Str.ofString "0123456789").length 1 = [c] := by decide +kernel
theorem fig_occ {c : Nat} (h1 : 48 ≤ c) (h2 : c ≤ 57) : Builtin.Str.occurrences (Str.ofString "0123456789") { cps := #[c] } 0 (Str.ofString "0123456789").length 1 = (c - 48) :: [] := by
  have := fig_occ0 (c - 48) (by omega)
  rw [show 48 + (c - 48) = c from by omega] at this
  exact this
theorem isDigit_iff (c : Nat) : Sre.isDigit c = true ↔ 48 ≤ c ∧ c ≤ 57 := by
  unfold Sre.isDigit
  simp
end Mine
end

section
open PySem PySem.W PyProof.Rows PySem.Calls
set_option maxRecDepth 100000
set_option maxHeartbeats 8000000
namespace Mine
theorem calm_C10 : True := by
  w_top off
  trivial

def curLen : Cur → Nat
  | .word x => x.length
  | _ => 0

theorem stepC_sep {st : List Dat × Cur} {c : Nat} (h : isSep c = true) : stepC st c = (st.1 ++ ren st.2, .no) := by unfold stepC; rw [if_pos h]
theorem stepC_num {d : List Dat} {n : Int} {c : Nat} (h : isSep c = false) (hd : Sre.isDigit c = true) : stepC (d, .num n) c = (d, .num (n * 10 + ((c - 48 : Nat) : Int))) := by
  unfold stepC; rw [if_neg (by rw [h]; exact Bool.false_ne_true), if_pos hd]
theorem stepC_numN {d : List Dat} {q : Cur} {c : Nat} (h : isSep c = false) (hd : Sre.isDigit c = true) (hq : ∀ n, q ≠ .num n) : stepC (d, q) c = (d ++ ren q, .num ((c - 48 : Nat) : Int)) := by
  unfold stepC; rw [if_neg (by rw [h]; exact Bool.false_ne_true), if_pos hd]
  cases q with
  | no => rfl
  | num n => exact absurd rfl (hq n)
  | word x => rfl
theorem stepC_word {d : List Dat} {x : Str} {c : Nat} (h : isSep c = false) (hd : Sre.isDigit c = false) : stepC (d, .word x) c = (d, .word (x ++ ⟨#[c]⟩)) := by
  unfold stepC; rw [if_neg (by rw [h]; exact Bool.false_ne_true), if_neg (by rw [hd]; exact Bool.false_ne_true)]
theorem stepC_wordN {d : List Dat} {q : Cur} {c : Nat} (h : isSep c = false) (hd : Sre.isDigit c = false) (hq : ∀ x, q ≠ .word x) : stepC (d, q) c = (d ++ ren q, .word ⟨#[c]⟩) := by
  unfold stepC; rw [if_neg (by rw [h]; exact Bool.false_ne_true), if_neg (by rw [hd]; exact Bool.false_ne_true)]
  cases q with
  | no => rfl
  | num n => rfl
  | word x => exact absurd rfl (hq x)

section
variable {prog : Program} {w : World} {A : Around} {E : Value → Shared → Prop} {s : Shared} {mean : ExcName → Option Value} {mg mb : Str → Option Value} {loose : List Str} {base : Heap} {envs : List Env}

theorem told_turn {Q : Flow → Shared → Prop} {a I L : Addr} {vs : List Value} {n : Nat} {oI : Obj} {ah : Str} {ta tv : Tok} {c : Nat} {u : Str → Option Value} {h₀ : Heap} {st : List Dat × Cur}
    (X : (hd.heap_39 w.params).In h₀) (T : Top hd.view_39 loose mean mg mb h₀) (hroom : A.depth + 1 < recursionLimit)
    (F : Fr h₀ L s.heap (fun y => if y = Str.ofString "sign" then some (.str ⟨#[c]⟩ tv) else if y = Str.ofString "told" then some (.ref a) else if y = Str.ofString "ahead" then some (.str ah ta) else u y))
    (N : News h₀ L s.heap [(a, W.listOf vs.toArray n), (I, oI)]) (hne : @Ne Nat a I) (hrel : RelC vs ah st) (hlen : vs.length ≤ 1000) (hwl : curLen st.2 ≤ 1000) (hok : okC c = true)
    (hQ : ∀ h' tk a' vs' n' (u' : Str → Option Value) ah' t', Fr h₀ L h' (fun y => if y = Str.ofString "told" then some (.ref a') else if y = Str.ofString "ahead" then some (.str ah' t') else u' y) → News h₀ L h' [(a', W.listOf (vs' : List Value).toArray n'), (I, oI)] → @Ne Nat a' I →
      RelC vs' ah' (stepC st c) → vs'.length ≤ vs.length + 2 → Q .next { s with heap := h', toks := tk }) :
    ∀ o, (hd.heap_39 w.params).lookup 58 = some o →
    wpAny (model PySem.Challenge.rw_dz0075_01.row.prog w) (A.deeper (envOf (Str.ofString "_law_told") (funScope o) L 58 (.ref 57))) (execs (loop3 (funBody o)) (envOf (Str.ofString "_law_told") (funScope o) L 58 (.ref 57))) Q (fun _ _ => False) s := by
  have hroom' : (A.deeper (envOf (Str.ofString "_law_told") { kind := .function, names := [], isGenerator := false, isCoroutine := false, more := [] } 0 0 .none)).depth < recursionLimit := hroom
  cases hs : isSep c with
  | true =>
    refine turn_s X T hroom' F N hne (by rw [sep_occ, hs]; rfl) ?_
    intro h' tk a' vs' n' u' t' F' N' ne' e
    refine hQ h' tk a' vs' n' u' _ t' F' N' ne' ?_ (by rw [e]; omega)
    rw [stepC_sep hs, e]
    exact ⟨hrel.out, by decide +kernel, by decide +kernel⟩
  | false =>
    have hsep : (Builtin.Str.occurrences (Str.ofString "._+-") { cps := #[c] } 0 (Str.ofString "._+-").length 1).isEmpty = true := by rw [sep_occ, hs]; rfl
    obtain ⟨d, q⟩ := st
    cases hd : Sre.isDigit c with
    | true =>
      obtain ⟨c1, c2⟩ := (isDigit_iff c).mp hd
      have h0 := mt (lt_zero c).mp (by omega)
      have h9 := mt (lt_nine c).mp (by omega)
      by_cases hq : ∃ k, q = .num k
      · obtain ⟨k, rfl⟩ := hq
        obtain ⟨rfl, us, t1, t2, rfl, hD⟩ := hrel
        refine turn_dn X T hroom' F N hne hsep h0 h9 (fig_occ c1 c2) (by simp at hlen; omega) ?_
        intro h' tk a' vs' n' u' t' t3 F' N' ne' e
        refine hQ h' tk a' vs' n' u' _ t' F' N' ne' ?_ (by rw [e]; simp)
        rw [stepC_num hs hd, e]
        exact ⟨rfl, us, t1, t3, rfl, hD⟩
      · have hq' : ∀ n, q ≠ .num n := fun n e => hq ⟨n, e⟩
        have hah : (ah == Str.ofString "0") = false := by
          cases q with
          | no => exact hrel.2.1
          | num n => exact absurd rfl (hq' n)
          | word x => rw [hrel.1]; decide +kernel
        refine turn_do X T hroom' F N hne hsep h0 h9 (fig_occ c1 c2) hlen hah ?_
        intro h' tk a' vs' n' u' t' t3 t4 F' N' ne' e
        refine hQ h' tk a' vs' n' u' _ t' F' N' ne' ?_ (by rw [e]; simp)
        rw [stepC_numN hs hd hq', e]
        exact ⟨rfl, vs, t3, t4, rfl, hrel.out⟩
    | false =>
      have hl : isLet c = true := by
        unfold okC at hok
        rw [hs, hd] at hok
        exact hok
      have hc : 57 < c := by
        unfold isLet at hl
        simp only [Bool.or_eq_true, Bool.and_eq_true, decide_eq_true_eq] at hl
        omega
      have h0 := mt (lt_zero c).mp (by omega)
      have h9 := (lt_nine c).mpr hc
      by_cases hq : ∃ x, q = .word x
      · obtain ⟨x, rfl⟩ := hq
        obtain ⟨rfl, us, t1, t2, rfl, hD⟩ := hrel
        refine turn_wn X T hroom' F N hne hsep h0 h9 (by simp at hlen; omega) hwl ?_
        intro h' tk a' vs' n' u' t' t3 t4 F' N' ne' e
        refine hQ h' tk a' vs' n' u' _ t' F' N' ne' ?_ (by rw [e]; simp)
        rw [stepC_word hs hd, e]
        exact ⟨rfl, us, t3, t4, rfl, hD⟩
      · have hq' : ∀ n, q ≠ .word n := fun n e => hq ⟨n, e⟩
        have hah : (ah == Str.ofString "a") = false := by
          cases q with
          | no => exact hrel.2.2
          | num n => rw [hrel.1]; decide +kernel
          | word x => exact absurd rfl (hq' x)
        refine turn_wo X T hroom' F N hne hsep h0 h9 hlen hah ?_
        intro h' tk a' vs' n' u' t' t3 t4 F' N' ne' e
        refine hQ h' tk a' vs' n' u' _ t' F' N' ne' ?_ (by rw [e]; simp)
        rw [stepC_wordN hs hd hq', e]
        exact ⟨rfl, vs, t3, t4, rfl, hrel.out⟩

theorem foldC_snoc (l : List Nat) (c : Nat) : foldC (l ++ [c]) = stepC (foldC l) c := by unfold foldC; rw [List.foldl_append]; rfl
theorem stepC_len (st : List Dat × Cur) (c : Nat) : curLen (stepC st c).2 ≤ curLen st.2 + 1 := by
  obtain ⟨d, q⟩ := st
  cases hs : isSep c with
  | true => rw [stepC_sep hs]; simp [curLen]
  | false =>
    cases hd : Sre.isDigit c with
    | true =>
      by_cases hq : ∃ k, q = .num k
      · obtain ⟨k, rfl⟩ := hq; rw [stepC_num hs hd]; simp [curLen]
      · rw [stepC_numN hs hd fun n e => hq ⟨n, e⟩]; simp [curLen]
    | false =>
      by_cases hq : ∃ x, q = .word x
      · obtain ⟨x, rfl⟩ := hq
        rw [stepC_word hs hd]
        show (x ++ (⟨#[c]⟩ : Str)).length ≤ x.length + 1
        rw [Str.length_append]
        exact Nat.le_refl _
      · rw [stepC_wordN hs hd fun n e => hq ⟨n, e⟩]
        show (⟨#[c]⟩ : Str).length ≤ _
        have : (⟨#[c]⟩ : Str).length = 1 := rfl
        omega
theorem foldl_len : ∀ (l : List Nat) (st : List Dat × Cur), curLen (l.foldl stepC st).2 ≤ curLen st.2 + l.length
  | [], _ => Nat.le_refl _
  | c :: r, st => by
    have h1 := foldl_len r (stepC st c)
    have h2 := stepC_len st c
    rw [List.foldl_cons, List.length_cons]
    omega
theorem foldC_len (l : List Nat) : curLen (foldC l).2 ≤ l.length := by
  have := foldl_len l ([], .no)
  simpa [foldC, curLen] using this
end
end Mine
end

section
open PySem PySem.W PyProof.Rows PySem.Calls
set_option maxRecDepth 100000
set_option maxHeartbeats 8000000
namespace Mine
theorem calm_C11 : True := by
  w_top off
  trivial

section
variable {h₀ h h₁ : Heap} {L I : Addr} {m : Str → Option Value} {news : List (Addr × Obj)}
theorem Fr.but (F : Fr h₀ L h m) (hk : ∀ b o, b ∉ [I] → h.get? b = some o → h₁.get? b = some o) (hL : L ≠ I) (hb : h₀.get? I = none) : Fr h₀ L h₁ m := by
  obtain ⟨o, es, ep, ho, r⟩ := F.ns
  refine ⟨⟨o, es, ep, hk _ _ (by simpa using hL) ho, r⟩, fun b o e => hk _ _ ?_ (F.keep b o e), F.above⟩
  intro hm
  rw [List.mem_singleton.mp hm, hb] at e
  cases e
theorem News.but (N : News h₀ L h news) (hk : ∀ b o, b ∉ [I] → h.get? b = some o → h₁.get? b = some o) (hn : ∀ p ∈ news, p.1 ≠ I) : News h₀ L h₁ news :=
  fun p hp => ⟨hk _ _ (by simpa using hn p hp) (N p hp).1, (N p hp).2⟩
end

section
variable {prog : Program} {w : World} {A : Around} {E : Value → Shared → Prop} {s : Shared} {mean : ExcName → Option Value} {mg mb : Str → Option Value} {loose : List Str} {base : Heap} {envs : List Env}

theorem okC_lt {c : Nat} (h : okC c = true) : c < 128 := by
  unfold okC isSep Sre.isDigit isLet at h
  simp only [Bool.or_eq_true, Bool.and_eq_true, decide_eq_true_eq, beq_iff_eq] at h
  omega

theorem told_turn' {Q : Flow → Shared → Prop} {a I L : Addr} {vs : List Value} {n : Nat} {oI : Obj} {ah : Str} {ta tv : Tok} {c : Nat} {u : Str → Option Value} {h₀ : Heap} {st : List Dat × Cur} {o : Obj} {body : List Stmt} {scope : Scope}
    (X : (hd.heap_39 w.params).In h₀) (T : Top hd.view_39 loose mean mg mb h₀) (hroom : A.depth + 1 < recursionLimit)
    (F : Fr h₀ L s.heap (fun y => if y = Str.ofString "sign" then some (.str ⟨#[c]⟩ tv) else if y = Str.ofString "told" then some (.ref a) else if y = Str.ofString "ahead" then some (.str ah ta) else u y))
    (N : News h₀ L s.heap [(a, W.listOf vs.toArray n), (I, oI)]) (hne : @Ne Nat a I) (hrel : RelC vs ah st) (hlen : vs.length ≤ 1000) (hwl : curLen st.2 ≤ 1000) (hok : okC c = true)
    (ho : (hd.heap_39 w.params).lookup 58 = some o) (e1 : body = loop3 (funBody o)) (e2 : scope = funScope o)
    (hQ : ∀ h' tk a' vs' n' (u' : Str → Option Value) ah' t', Fr h₀ L h' (fun y => if y = Str.ofString "told" then some (.ref a') else if y = Str.ofString "ahead" then some (.str ah' t') else u' y) → News h₀ L h' [(a', W.listOf (vs' : List Value).toArray n'), (I, oI)] → @Ne Nat a' I →
      RelC vs' ah' (stepC st c) → vs'.length ≤ vs.length + 2 → Q .next { s with heap := h', toks := tk }) :
    wpAny (model PySem.Challenge.rw_dz0075_01.row.prog w) (A.deeper (envOf (Str.ofString "_law_told") scope L 58 (.ref 57))) (execs body (envOf (Str.ofString "_law_told") scope L 58 (.ref 57))) Q (fun _ _ => False) s := by
  subst e1 e2
  exact told_turn X T hroom F N hne hrel hlen hwl hok hQ o ho

theorem told_call {x : Str} {t : Tok} {Q : Value → Shared → Prop} (X : (hd.heap_39 w.params).In s.heap) (T : Top hd.view_39 loose mean mg mb s.heap) (hroom : A.depth + 1 < recursionLimit) (hh : A.handled = none)
    (hx : x.cps.size ≤ 400) (hok : ∀ c ∈ x.cps.toList, okC c = true)
    (h : ∀ h' tk a vs n, s.heap.StaysIn h' → h'.get? a = some (W.listOf (vs : List Value).toArray n) → s.heap.get? a = none → DatAll [] vs (toldOf x.cps.toList) → Q (.ref a) { s with heap := h', toks := tk }) :
    wpAny (model PySem.Challenge.rw_dz0075_01.row.prog w) A (call (.ref 58) [.str x t]) Q E s := by
  have hall : ∀ c ∈ (x ++ Str.ofString ".").cps.toList, okC c = true := by
    intro c hc
    rw [Str.cps_append, Array.toList_append, List.mem_append] at hc
    rcases hc with hc | hc
    · exact hok c hc
    · have : (Str.ofString ".").cps.toList = [46] := by decide +kernel
      rw [this, List.mem_singleton] at hc
      rw [hc]; decide
  have hlist : (x ++ Str.ofString ".").cps.toList = x.cps.toList ++ [46] := by
    rw [Str.cps_append, Array.toList_append]
    have : (Str.ofString ".").cps.toList = [46] := by decide +kernel
    rw [this]
  have hsize : (x ++ Str.ofString ".").cps.size ≤ 401 := by
    rw [← Array.length_toList, hlist]; simp; omega
  have hasc : (x ++ Str.ofString ".").cps.all (· < 128) = true := by
    rw [← Array.all_toList, List.all_eq_true]
    intro c hc
    simpa using okC_lt (hall c hc)
  have hxl : x.length ≤ 400 := hx
  revert X
  k_fill
  intro X
  refine wpAny_call ?_
  refine' call_base X T.nolimit ?k6 ?k7 (by omega) ?k9 ?kB ?_ ?c2 ?c3 ?c4 ?c5
  case k6 => k_is
  case k7 => k_is
  case k9 => exact BindsTo.of_eq rfl
  case kB => exact locs rfl
  case c2 => exact rfl
  case c3 => exact rfl
  case c4 => exact rfl
  case c5 => decide
  intro h₁ F N
  (try dsimp only)
  refine execs_cut (l1 := [_, _]) (l2 := [_, _]) ?_
  k_fold
  k_steps
  show wpAny _ _ (execs [_, _] _) _ _ _
  refine wpAny_execs_cons (wpA_For ?_)
  k_fold
  k_steps
  show wpAny _ _ (pyIter _) _ _ _
  rename Fr _ _ _ _ => F'
  rename News _ _ _ _ => N'
  refine wpAny_pyIter_ascii hasc ?_
  rename_i z0 z1 l0 z2 z3 z4 hC t0 k0 hle
  have hIlt : ∀ b o, s.heap.get? b = some o → b ≠ hC.objs.size := fun b o e => Nat.ne_of_lt (Heap.lt_size (F'.keep b o e))
  have hbase : s.heap.get? hC.objs.size = none := by
    cases hq : s.heap.get? hC.objs.size with
    | none => rfl
    | some o => exact absurd rfl (hIlt _ o hq)
  have hLI : s.heap.objs.size ≠ hC.objs.size := Nat.ne_of_lt F'.ns.lt
  have hlI : @Ne Nat l0 hC.objs.size := Nat.ne_of_lt (Heap.lt_size (N' _ (by k_mem)).1)
  refine ⟨hC.objs.size, [hC.objs.size], [hC.objs.size], (x ++ Str.ofString ".").cps.size, SignAt (x ++ Str.ofString "."), (fun i h => h.IsStrIter hC.objs.size "str_ascii_iterator" (x ++ Str.ofString ".") t0 i),
    (fun i s₃ => ∃ (hh : Heap) (tk : Nat) (a : Addr) (vs : List Value) (n : Nat) (u : Str → Option Value) (ah : Str) (ta : Tok), s₃ = { s with heap := hh, toks := tk } ∧ Fr s.heap s.heap.objs.size hh (fun y => if y = Str.ofString "told" then some (.ref a) else if y = Str.ofString "ahead" then some (.str ah ta) else u y) ∧
      News s.heap s.heap.objs.size hh [(a, W.listOf (vs : List Value).toArray n)] ∧ @Ne Nat a hC.objs.size ∧ RelC vs ah (foldC ((x ++ Str.ofString ".").cps.toList.take i)) ∧ vs.length ≤ 2 * i),
    rfl, Walks.strAscii (by exact hh) _ _ _, ⟨_, Heap.get?_push_size _ rfl, rfl, rfl⟩, ?_, ?_, ?_⟩
  · refine ⟨_, _, l0, [], 0, _, Str.ofString "", _, rfl, Fr.norm (F'.push _) rfl rfl, News.stays N' (fun b o e => Heap.get?_push_of_some _ e), hlI, ⟨.nil, by decide +kernel, by decide +kernel⟩, by simp⟩
  · rintro i s₃ v h₁ tk hi hst ⟨hh', tk', a, vs, n, u, ah, ta, rfl, F₁, N₁, hne, hrel, hlen⟩ ⟨c, uu, hc, rfl⟩ ⟨oI, hoI, hI1, hI2⟩ hk
    have F₂ := Fr.but F₁ hk hLI hbase
    have N₂ := News.but N₁ hk (by intro p hp; rw [List.mem_singleton.mp hp]; exact hne)
    have N₃ : News s.heap s.heap.objs.size h₁ [(a, W.listOf vs.toArray n), (hC.objs.size, oI)] := by
      intro p hp
      rcases List.mem_cons.mp hp with rfl | hp
      · exact N₂ _ (by k_mem)
      · rw [List.mem_singleton.mp hp]; exact ⟨hoI, Ne.symm hLI, hbase⟩
    have hmem : c ∈ (x ++ Str.ofString ".").cps.toList := by
      rw [Array.mem_toList_iff]
      exact Array.mem_of_getElem? hc
    have htake : (x ++ Str.ofString ".").cps.toList.take (i + 1) = (x ++ Str.ofString ".").cps.toList.take i ++ [c] := by
      rw [List.take_add_one, Array.getElem?_toList, hc]; rfl
    have hi' : i < 401 := by omega
    refine stN F₂ N₃ (fun h₂ F₃ N₄ => ?_)
    refine' told_turn' X T hroom F₃ N₄ hne hrel (by omega) ?hw (hall c hmem) ?ho ?e1 ?e2 ?_
    case ho => k_is
    case e1 => rfl
    case e2 => rfl
    case hw =>
      refine Nat.le_trans (foldC_len _) ?_
      rw [List.length_take]
      omega
    intro h' tk₂ a' vs' n' u' ah' t' F₄ N₅ ne' hrel' hlen'
    refine ⟨⟨oI, (N₅ (hC.objs.size, oI) (by k_mem)).1, hI1, hI2⟩, h', tk₂, a', vs', n', u', ah', t', rfl, F₄, ?_, ne', ?_, by omega⟩
    · intro p hp
      rw [List.mem_singleton.mp hp]
      exact N₅ (a', _) (by k_mem)
    · rw [htake, foldC_snoc]; exact hrel'
  · rintro s₃ h₂ tk hst ⟨hh', tk', a, vs, n, u, ah, ta, rfl, F₁, N₁, hne, hrel, hlen⟩ hk
    have F₂ := Fr.but F₁ hk hLI hbase
    have N₂ := News.but N₁ hk (by intro p hp; rw [List.mem_singleton.mp hp]; exact hne)
    have hwhole : (x ++ Str.ofString ".").cps.toList.take (x ++ Str.ofString ".").cps.size = x.cps.toList ++ [46] := by
      rw [List.take_of_length_le (by simp), hlist]
    rw [hwhole] at hrel
    have hd := hrel.out
    have hno : (foldC (x.cps.toList ++ [46])).2 = .no := by rw [foldC_snoc, stepC_sep (by decide)]
    rw [hno] at hd
    have hd' : DatAll [] vs (toldOf x.cps.toList) := by
      have e : (foldC (x.cps.toList ++ [46])).1 ++ ren .no = toldOf x.cps.toList := List.append_nil _
      rw [← e]; exact hd
    refine wpAny_execs_cons ?_
    rw [exec_Return_some]
    refine wpAny_bind (wpAny_standAt (wpAny_bind (ld F₂ rfl (wpAny_pure ?_))))
    exact h _ _ a vs n F₂.keep (N₂ (a, _) (by k_mem)).1 (N₂ (a, _) (by k_mem)).2.2 hd'
end
end Mine
end

section
open PySem PySem.W PyProof.Rows PySem.Calls
set_option maxRecDepth 100000
set_option maxHeartbeats 8000000
namespace Mine
theorem calm_C12 : True := by
  w_top off
  trivial

inductive EntAre : List DictEntry → List (Str × Int) → Prop
  | nil : EntAre [] []
  | cons {e : DictEntry} {k : Str} {v : Int} {tk tv : Tok} {l : List DictEntry} {r : List (Str × Int)} (hk : e.key = .str k tk) (hv : e.val = .int v tv) (h : EntAre l r) : EntAre (e :: l) ((k, v) :: r)
theorem EntAre.get {l : List DictEntry} {r : List (Str × Int)} (h : EntAre l r) (x : Str) (u : Tok) : ∃ t, (findBy Value.isStrOf l.toArray x).getD (.int 0 u) = .int ((r.lookup x).getD 0) t := by
  unfold findBy
  rw [List.find?_toArray]
  induction h with
  | nil => exact ⟨u, rfl⟩
  | @cons e k v tk tv l r hk hv _ ih =>
    rw [List.find?_cons, List.lookup_cons]
    have e1 : Value.isStrOf x e.key = (k == x) := by rw [hk]; rfl
    rw [e1]
    by_cases hx : k = x
    · rw [hx]
      simp only [beq_self_eq_true]
      exact ⟨tv, by simp [hv]⟩
    · have a1 : (k == x) = false := by rw [beq_eq_false_iff_ne]; exact hx
      have a2 : (x == k) = false := by rw [beq_eq_false_iff_ne]; exact Ne.symm hx
      rw [a1, a2]
      exact ih

theorem EntAre.use {l : List DictEntry} {x : Str} {u : Tok} {P : Value → Prop} (h : EntAre l (rankNames.zip rankInts)) (hP : ∀ t, P (.int (rankOf x) t)) : P ((findBy Value.isStrOf l.toArray x).getD (.int 0 u)) := by
  obtain ⟨t, e⟩ := h.get x u
  rw [e]; exact hP t

section
variable {w : World} {A : Around} {E : Value → Shared → Prop} {s : Shared} {h₀ : Heap} {L : Addr} {m : Str → Option Value}
theorem verget_K {word : Str} {t u : Tok} {Q : Value → Shared → Prop} (F : Fr h₀ L s.heap m) (X : (hd.heap_39 w.params).In h₀)
    (h : ∀ t', Q (.int (rankOf word) t') { s with toks := s.toks + 1 }) :
    wpAny (model PySem.Challenge.rw_dz0075_01.row.prog w) A (call (.builtin "dict.get") [.ref 37, .str word t, .int 0 u]) Q E s := by
  revert X
  k_fill
  intro X
  have hm := mapOf_K (prog := PySem.Challenge.rw_dz0075_01.row.prog) (w := w) (a := 37) (X.keeps F.keep) (by k_is) (by k_keys)
  refine call_meetsIn PySem.F.slot_dict_get hm.typeIs PySem.F.entry_dict_get (PySem.F.args_dict_get_3 _ _ _) (meets_dict_get_default _ 37 (strKind_is _ w word t) (by decide) (.int 0 u)) ⟨_, hm, ?_⟩
  refine EntAre.use (P := fun v => Q v _) ?_ h
  unfold rankNames rankInts
  repeat (first | exact .nil | refine .cons rfl rfl ?_)
end
end Mine
end

section
open PySem PySem.W PyProof.Rows PySem.Calls
set_option maxRecDepth 100000
set_option maxHeartbeats 8000000
namespace Mine
theorem calm_C13 : True := by
  w_top off
  trivial

local macro_rules | `(tactic| walk_at "call type:int") => `(tactic| (k_here; (refine call_int_digits (by assumption) (by assumption) ?_)))
local macro_rules | `(tactic| walk_at "call builtin:dict.get") => `(tactic| (k_here; k_dflt (refine' verget_K ?k1 ?k2 ?_; (case k1 => k_asm); (case k2 => k_asm); k_whole); intro t'))
local macro_rules | `(tactic| walk_at "call builtin:list.extend") => `(tactic| (k_here; (with_reducible show wpAny _ _ (call (Value.builtin _) [Value.ref _, Value.ref _]) _ _ _); k_dflt (refine' kup_extend ?F ?N ?b ?e ?ne ?U ?d ?z ?y ?_; (case F => k_asm); (case N => k_asm); (case b => k_mem); (case U => k_upd); (case e => exact (List.append_assoc _ [_] [_]).symm); (case ne => (intro z; cases z)); (case d => (rw [show Builtin.List.listTooLong _ = false from (by unfold Builtin.List.listTooLong; rw [decide_eq_false_iff_not, sizeLine_eq]; simp; omega), Bool.and_false]; exact Bool.false_ne_true)); (case z => (rw [sizeLine_eq]; simp; omega)); (case y => (rw [sizeLine_eq]; simp; omega))); intro h' F' N'; (try dsimp only at N'); (try k_sweep)))

theorem Fr.norm1 {h₀ h : Heap} {L : Addr} {m : Str → Option Value} {v1 : Value} (F : Fr h₀ L h m) (e1 : m (Str.ofString "result") = some v1) :
    Fr h₀ L h (fun y => if y = Str.ofString "result" then some v1 else m y) := by
  have e : (fun y => if y = Str.ofString "result" then some v1 else m y) = m := by
    funext y
    by_cases h1 : y = Str.ofString "result"
    · rw [if_pos h1, h1, e1]
    · rw [if_neg h1]
  rw [e]; exact F
theorem News.four {h₀ h : Heap} {L a I l k : Addr} {o1 o2 o3 o4 : Obj} {news : List (Addr × Obj)} (N : News h₀ L h news) (h1 : (a, o1) ∈ news) (h2 : (I, o2) ∈ news) (h3 : (l, o3) ∈ news) (h4 : (k, o4) ∈ news) : News h₀ L h [(a, o1), (I, o2), (l, o3), (k, o4)] := fun p hp => by
  rcases List.mem_cons.mp hp with rfl | hp
  · exact N _ h1
  · rcases List.mem_cons.mp hp with rfl | hp
    · exact N _ h2
    · rcases List.mem_cons.mp hp with rfl | hp
      · exact N _ h3
      · rw [List.mem_singleton.mp hp]; exact N _ h4

section
variable {prog : Program} {w : World} {A : Around} {E : Value → Shared → Prop} {s : Shared} {mean : ExcName → Option Value} {mg mb : Str → Option Value} {loose : List Str}

theorem cv_skip {Q : Flow → Shared → Prop} {r I l L L' : Addr} {n : Nat} {oI oL ol : Obj} {tv : Tok} {p : Str} {u : Str → Option Value} {hb : Heap} {rs : List Value}
    (X : (hd.heap_39 w.params).In hb) (T : Top hd.view_39 loose mean mg mb hb)
    (F : Fr hb L' s.heap (fun y => if y = Str.ofString "v" then some (.str p tv) else if y = Str.ofString "result" then some (.ref r) else u y))
    (N : News hb L' s.heap [(r, W.listOf rs.toArray n), (I, oI), (l, ol), (L, oL)]) (n1 : @Ne Nat r I) (n2 : @Ne Nat r L) (n4 : @Ne Nat r l)
    (hin : (Builtin.Str.occurrences (Str.ofString "._+-") p 0 (Str.ofString "._+-").length 1).isEmpty = false)
    (hQ : ∀ h' tk (u' : Str → Option Value), Fr hb L' h' (fun y => if y = Str.ofString "result" then some (.ref r) else u' y) → News hb L' h' [(r, W.listOf rs.toArray n), (I, oI), (l, ol), (L, oL)] → Q .next { s with heap := h', toks := tk }) :
    ∀ o, (hd.heap_39 w.params).lookup 44 = some o →
    wpAny (model PySem.Challenge.rw_dz0075_01.row.prog w) (A.deeper (envOf (Str.ofString "_comparable_version") (funScope o) L' 44 (.ref 43))) (execs (loop3 (funBody o)) (envOf (Str.ofString "_comparable_version") (funScope o) L' 44 (.ref 43))) Q (fun _ _ => False) s := by
  revert X
  k_fill
  intro X
  refine' elimO ?hk ?_
  case hk => k_is
  dsimp only [funBody, funScope, loop3]
  obtain ⟨hp, gs, dr, tk, os⟩ := s
  dsimp only at F N ⊢
  k_steps
  exact hQ _ _ _ (Fr.norm1 F rfl) N

theorem cv_dig {Q : Flow → Shared → Prop} {r I l L L' : Addr} {n : Nat} {oI oL ol : Obj} {tv : Tok} {p : Str} {u : Str → Option Value} {hb : Heap} {rs : List Value} {k : Int}
    (X : (hd.heap_39 w.params).In hb) (T : Top hd.view_39 loose mean mg mb hb)
    (F : Fr hb L' s.heap (fun y => if y = Str.ofString "v" then some (.str p tv) else if y = Str.ofString "result" then some (.ref r) else u y))
    (N : News hb L' s.heap [(r, W.listOf rs.toArray n), (I, oI), (l, ol), (L, oL)]) (n1 : @Ne Nat r I) (n2 : @Ne Nat r L) (n4 : @Ne Nat r l) (hlen : rs.length ≤ 2000)
    (hin : (Builtin.Str.occurrences (Str.ofString "._+-") p 0 (Str.ofString "._+-").length 1).isEmpty = true) (hp : p.length ≤ 640) (hk : PySem.intText? p = some k)
    (hQ : ∀ h' tk (u' : Str → Option Value) n' rs' t1 t2, Fr hb L' h' (fun y => if y = Str.ofString "result" then some (.ref r) else u' y) → News hb L' h' [(r, W.listOf (rs' : List Value).toArray n'), (I, oI), (l, ol), (L, oL)] → rs' = rs ++ [Value.int 100 t1] ++ [Value.int k t2] → Q .next { s with heap := h', toks := tk }) :
    ∀ o, (hd.heap_39 w.params).lookup 44 = some o →
    wpAny (model PySem.Challenge.rw_dz0075_01.row.prog w) (A.deeper (envOf (Str.ofString "_comparable_version") (funScope o) L' 44 (.ref 43))) (execs (loop3 (funBody o)) (envOf (Str.ofString "_comparable_version") (funScope o) L' 44 (.ref 43))) Q (fun _ _ => False) s := by
  revert X
  k_fill
  intro X
  refine' elimO ?hk ?_
  case hk => k_is
  dsimp only [funBody, funScope, loop3]
  obtain ⟨hp, gs, dr, tk, os⟩ := s
  dsimp only at F N ⊢
  k_steps
  rename Fr _ _ _ _ => F'
  rename News _ _ _ _ => N'
  refine hQ _ _ _ _ _ _ _ (Fr.norm1 F' rfl) (News.four N' (by k_mem) (by k_mem) (by k_mem) (by k_mem)) rfl

theorem cv_let {Q : Flow → Shared → Prop} {r I l L L' : Addr} {n : Nat} {oI oL ol : Obj} {tv : Tok} {p : Str} {u : Str → Option Value} {hb : Heap} {rs : List Value} {env : Env}
    (lo1 : Str.ofString "ValueError" ∉ loose) (lo2 : Str.ofString "ValueError" ∉ (clssOf hd.view_39 loose).map (·.name)) (hfr : A.frames = some [env]) (Fs : TI.Frs [env] [(L, oL)]) (hh : A.handled = none)
    (X : (hd.heap_39 w.params).In hb) (T : Top hd.view_39 loose mean mg mb hb)
    (F : Fr hb L' s.heap (fun y => if y = Str.ofString "v" then some (.str p tv) else if y = Str.ofString "result" then some (.ref r) else u y))
    (N : News hb L' s.heap [(r, W.listOf rs.toArray n), (I, oI), (l, ol), (L, oL)]) (n1 : @Ne Nat r I) (n2 : @Ne Nat r L) (n4 : @Ne Nat r l) (n3 : @Ne Nat I L) (n5 : @Ne Nat l L) (hlen : rs.length ≤ 2000)
    (hin : (Builtin.Str.occurrences (Str.ofString "._+-") p 0 (Str.ofString "._+-").length 1).isEmpty = true) (hp : p.length ≤ 640) (hx : (reprText p).length ≤ sizeLine)
    (hne : p.cps.toList ≠ []) (hl : ∀ c ∈ p.cps.toList, isLet c = true)
    (hQ : ∀ h' tk (u' : Str → Option Value) n' rs' t1 t2 sl, Fr hb L' h' (fun y => if y = Str.ofString "result" then some (.ref r) else u' y) → News hb L' h' [(r, W.listOf (rs' : List Value).toArray n'), (I, oI), (l, ol), (L, { oL with slots := sl })] → rs' = rs ++ [Value.int (rankOf p) t1] ++ [Value.str p t2] →
      TI.Frs [env] [(L, { oL with slots := sl })] → Q .next { s with heap := h', toks := tk }) :
    ∀ o, (hd.heap_39 w.params).lookup 44 = some o →
    wpC (model PySem.Challenge.rw_dz0075_01.row.prog w) (A.deeper (envOf (Str.ofString "_comparable_version") (funScope o) L' 44 (.ref 43))) (execs (loop3 (funBody o)) (envOf (Str.ofString "_comparable_version") (funScope o) L' 44 (.ref 43))) Q (fun _ _ => False) s := by
  have hr := letters_invalid hne hl
  revert X
  k_fill
  intro X
  refine' elimO ?hk ?_
  case hk => k_is
  dsimp only [funBody, funScope, loop3]
  obtain ⟨hp, gs, dr, tk, os⟩ := s
  dsimp only at F N ⊢
  refine wpC_execs_cons (wpC_If ?_)
  k_steps
  unfold Stop
  rw [hin]
  show wpC _ _ (execs [_, _] _) _ _ _
  refine wpC_execs_cons (wpC_Try (wpC_execs_cons (wpC_Assign_Name (wpC_Call_Name ?_))))
  k_steps
  refine callWith_C .machine (.inr rfl) ?_
  k_steps
  refine ⟨Looks.of_pure rfl, call_int_raises (by exact hh) (by assumption) hx hr fun h' tk' e hX => ?_⟩
  refine TLg.noted_new1 (new := [(r, _), (I, _), (l, _)]) hfr Fs hX F N ⟨n2, n3, n5, trivial⟩ fun h₂ sl Fs' H => ?_
  refine TT.HeldNA.land H fun h₃ H₂ => ?_
  with_unfolding_all refine TT.clause_hitTN H₂ T (t2 := lo1) (t5 := lo2) (k := ?_) (hv := by boot_by_name)
  clear hX H H₂ F N Fs
  intro h₄ F₁ N₁
  k_steps
  show wpC _ _ (execs [_] _) _ _ _
  refine wpC_of ?_
  rename News _ _ _ _ => N'
  simp only [List.cons_append, List.nil_append] at N'
  k_steps
  show wpC _ _ (execs [] _) _ _ _
  refine wpC_execs_nil ?_
  rename Fr _ _ _ _ => F''
  rename News _ _ _ _ => N''
  exact hQ _ _ _ _ _ _ _ _ (Fr.norm1 F'' rfl) (News.four N'' (by k_mem) (by k_mem) (by k_mem) (by k_mem)) rfl Fs'
end
end Mine
end

section
open PySem PySem.W PyProof.Rows PySem.Calls PySem.NumText
set_option maxRecDepth 100000
set_option maxHeartbeats 8000000
namespace Mine
theorem calm_C14 : True := by
  w_top off
  trivial

def Piece (p : List Nat) : Prop := p = [] ∨ (∃ c, isSep c = true ∧ p = [c]) ∨ (p ≠ [] ∧ ∀ c ∈ p, Sre.isDigit c = true) ∨ (p ≠ [] ∧ ∀ c ∈ p, isLet c = true)
def pieceD : List Nat → List Dat
  | [] => []
  | c :: r => if isSep c then [] else if Sre.isDigit c then [.int 100, .int (digitsVal (c :: r) : Nat)] else [.int (rankOf (mkS (c :: r))), .str (mkS (c :: r))]
theorem pieceD_sep {c : Nat} {r : List Nat} (h : isSep c = true) : pieceD (c :: r) = [] := by simp only [pieceD, h, if_true]
theorem pieceD_dig {c : Nat} {r : List Nat} (h : isSep c = false) (hd : Sre.isDigit c = true) : pieceD (c :: r) = [.int 100, .int (digitsVal (c :: r) : Nat)] := by simp only [pieceD, h, hd, if_true, Bool.false_eq_true, if_false]
theorem pieceD_let {c : Nat} {r : List Nat} (h : isSep c = false) (hd : Sre.isDigit c = false) : pieceD (c :: r) = [.int (rankOf (mkS (c :: r))), .str (mkS (c :: r))] := by simp only [pieceD, h, hd, Bool.false_eq_true, if_false]
def cvOf (l : List Nat) : List Dat := (splitF l.length l).flatMap pieceD

theorem let_not {c : Nat} (h : isLet c = true) : isSep c = false ∧ Sre.isDigit c = false := by
  unfold isLet at h
  unfold isSep Sre.isDigit
  simp only [Bool.or_eq_true, Bool.and_eq_true, decide_eq_true_eq] at h
  simp only [Bool.or_eq_false_iff, beq_eq_false_iff_ne, Bool.and_eq_false_iff, decide_eq_false_iff_not]
  omega
theorem dig_not {c : Nat} (h : Sre.isDigit c = true) : isSep c = false := by
  have := (isDigit_iff c).mp h
  unfold isSep
  simp only [Bool.or_eq_false_iff, beq_eq_false_iff_ne]
  omega

theorem mkS_list (l : List Nat) : (mkS l).cps.toList = l := rfl
theorem mkS_len (l : List Nat) : (mkS l).length = l.length := by show l.toArray.size = _; simp

theorem occ_nil : (Builtin.Str.occurrences (Str.ofString "._+-") (mkS []) 0 (Str.ofString "._+-").length 1).isEmpty = false := by decide +kernel
theorem occ_sep {c : Nat} (h : isSep c = true) : (Builtin.Str.occurrences (Str.ofString "._+-") (mkS [c]) 0 (Str.ofString "._+-").length 1).isEmpty = false := by
  have := sep_occ c
  rw [h] at this
  exact this
theorem occ_not {c : Nat} {r : List Nat} (h : isSep c = false) : (Builtin.Str.occurrences (Str.ofString "._+-") (mkS (c :: r)) 0 (Str.ofString "._+-").length 1).isEmpty = true := by
  have k := (StrLaws.found_iff (Str.ofString "._+-") (mkS (c :: r)))
  cases hq : (Builtin.Str.occurrences (Str.ofString "._+-") (mkS (c :: r)) 0 (Str.ofString "._+-").length 1).isEmpty with
  | true => rfl
  | false =>
    rw [hq] at k
    obtain ⟨i, h1, h2⟩ := k.mp rfl
    rw [StrLaws.subAt_eq, seps_are, mkS_list, mkS_len] at h2
    have h3 := eq_of_beq h2
    have h4 : c ∈ [46, 95, 43, 45] := by
      have : c ∈ (([46, 95, 43, 45] : List Nat).drop i).take (c :: r).length := by rw [h3]; simp
      exact List.mem_of_mem_drop (List.mem_of_mem_take this)
    unfold isSep at h
    simp only [Bool.or_eq_false_iff, beq_eq_false_iff_ne] at h
    simp only [List.mem_cons, List.not_mem_nil, or_false] at h4
    omega

section
variable {prog : Program} {w : World} {A : Around} {E : Value → Shared → Prop} {s : Shared} {mean : ExcName → Option Value} {mg mb : Str → Option Value} {loose : List Str}

theorem cv_turn {Q : Flow → Shared → Prop} {r I l L L' : Addr} {n : Nat} {oI oL ol : Obj} {tv : Tok} {p : List Nat} {u : Str → Option Value} {hb : Heap} {rs : List Value} {env : Env} {o : Obj} {body : List Stmt} {scope : Scope}
    (lo1 : Str.ofString "ValueError" ∉ loose) (lo2 : Str.ofString "ValueError" ∉ (clssOf hd.view_39 loose).map (·.name)) (hfr : A.frames = some [env]) (Fs : TI.Frs [env] [(L, oL)]) (hh : A.handled = none)
    (X : (hd.heap_39 w.params).In hb) (T : Top hd.view_39 loose mean mg mb hb)
    (F : Fr hb L' s.heap (fun y => if y = Str.ofString "v" then some (.str (mkS p) tv) else if y = Str.ofString "result" then some (.ref r) else u y))
    (N : News hb L' s.heap [(r, W.listOf rs.toArray n), (I, oI), (l, ol), (L, oL)]) (n1 : @Ne Nat r I) (n2 : @Ne Nat r L) (n4 : @Ne Nat r l) (n3 : @Ne Nat I L) (n5 : @Ne Nat l L) (hlen : rs.length ≤ 2000)
    (hp : p.length ≤ 400) (hP : Piece p) (ho : (hd.heap_39 w.params).lookup 44 = some o) (e1 : body = loop3 (funBody o)) (e2 : scope = funScope o)
    (hQ : ∀ h' tk (u' : Str → Option Value) n' rs' sl, Fr hb L' h' (fun y => if y = Str.ofString "result" then some (.ref r) else u' y) → News hb L' h' [(r, W.listOf (rs ++ rs' : List Value).toArray n'), (I, oI), (l, ol), (L, { oL with slots := sl })] → DatAll [] rs' (pieceD p) →
      TI.Frs [env] [(L, { oL with slots := sl })] → Q .next { s with heap := h', toks := tk }) :
    wpC (model PySem.Challenge.rw_dz0075_01.row.prog w) (A.deeper (envOf (Str.ofString "_comparable_version") scope L' 44 (.ref 43))) (execs body (envOf (Str.ofString "_comparable_version") scope L' 44 (.ref 43))) Q (fun _ _ => False) s := by
  subst e1 e2
  rcases hP with rfl | ⟨c, hc, rfl⟩ | ⟨hne, hall⟩ | ⟨hne, hall⟩
  · refine wpC_of (cv_skip X T F N n1 n2 n4 occ_nil (fun h' tk u' F' N' => ?_) o ho)
    exact hQ h' tk u' n [] oL.slots F' (by rw [List.append_nil]; exact N') .nil Fs
  · refine wpC_of (cv_skip X T F N n1 n2 n4 (occ_sep hc) (fun h' tk u' F' N' => ?_) o ho)
    refine hQ h' tk u' n [] oL.slots F' (by rw [List.append_nil]; exact N') ?_ Fs
    rw [pieceD_sep hc]
    exact .nil
  · cases p with
    | nil => exact absurd rfl hne
    | cons c r' =>
      have hc := hall c (by simp)
      have hdig : AllDigits (c :: r') := fun d hd => (isDigit_iff d).mp (hall d hd)
      have hk : PySem.intText? (mkS (c :: r')) = some (digitsVal (c :: r') : Nat) := intText_digits (x := mkS (c :: r')) hdig hne (by rw [mkS_len]; omega)
      refine wpC_of (cv_dig X T F N n1 n2 n4 hlen (occ_not (dig_not hc)) (by rw [mkS_len]; omega) hk (fun h' tk u' n' rs' t1 t2 F' N' e => ?_) o ho)
      subst e
      refine hQ h' tk u' n' [.int 100 t1, .int _ t2] oL.slots F' (by rw [List.append_assoc] at N'; exact N') ?_ Fs
      rw [pieceD_dig (dig_not hc) hc]
      exact .cons (.int _ _) (.cons (.int _ _) .nil)
  · cases p with
    | nil => exact absurd rfl hne
    | cons c r' =>
      have hc := let_not (hall c (by simp))
      have hx : (reprText (mkS (c :: r'))).length ≤ sizeLine := by
        have := StrLaws.reprText_len (mkS (c :: r')) fun d hd => by
          have := (let_lt (hall d hd)).1
          omega
        rw [mkS_len] at this
        rw [sizeLine_eq]
        omega
      refine cv_let lo1 lo2 hfr Fs hh X T F N n1 n2 n4 n3 n5 hlen (occ_not hc.1) (by rw [mkS_len]; omega) hx (by rw [mkS_list]; exact hne) (by rw [mkS_list]; exact hall) (fun h' tk u' n' rs' t1 t2 sl F' N' e Fs' => ?_) o ho
      subst e
      refine hQ h' tk u' n' [.int _ t1, .str _ t2] sl F' (by rw [List.append_assoc] at N'; exact N') ?_ Fs'
      rw [pieceD_let hc.1 hc.2]
      exact .cons (.int _ _) (.cons (.str _ _) .nil)
end
end Mine
end

section
open PySem PySem.W PyProof.Rows PySem.Calls PySem.NumText
set_option maxRecDepth 100000
set_option maxHeartbeats 8000000
namespace Mine
theorem calm_C15 : True := by
  w_top off
  trivial

section
variable {prog : Program} {w : World} {A : Around} {E : Value → Shared → Prop} {s : Shared} {K : Frag}
theorem call_baseC {R : Result → Shared → Prop} {name qual : Str} {params : Arguments} {body : List Stmt} {scope : Scope} {dV kV doc pm cdv ct oc : Value} {an od : Option Addr} {osl : Array (Option Value)} {f : Addr} {args : Args} {binds : List (Str × Value)}
    (X : K.In s.heap) (hlim : s.heap.NoLimit) (ho : K.lookup f = some ⟨oc, od, .func (fnOf name qual params body scope dV kV doc pm an cdv ct), osl⟩) (hcd : codeIn K cdv qual = true) (hroom : A.depth < recursionLimit)
    (hbind : BindsTo s (fnOf name qual params body scope dV kV doc pm an cdv ct) args binds) (hloc : ∀ y ∈ binds, scope.names.lookup y.1 = some .local)
    (h : ∀ h₁, h₁.Ns s.heap.objs.size (fun y => binds.reverse.lookup y) → (∀ b o, s.heap.get? b = some o → h₁.get? b = some o) →
      wpC (model prog w) (A.deeper (envOf qual scope s.heap.objs.size f cdv)) (execs body (envOf qual scope s.heap.objs.size f cdv))
        (fun fl s' => R (.ok (.ret (match fl with | .ret v => v | _ => .none))) s') (fun _ _ => False)
        { s with heap := h₁, toks := s.toks + binds.length })
    (hco : scope.isCoroutine = false) (hgen : scope.isGenerator = false) (hk : scope.kind = .function) (hcell : ∀ x ∈ scope.names, x.2 ≠ .cell) : codeC (model prog w) A (.call (.ref f) args) R s :=
  codeC_call_def (fd := fnOf name qual params body scope dV kV doc pm an cdv ct) (body := body) (binds := binds) hroom (X _ _ ho) rfl hlim (codeRec_of X hcd) rfl hbind hcell hloc
    (fun h₁ hns hk₁ => h h₁ hns hk₁) hco hgen hk
end

section
variable {w : World} {A : Around} {E : Value → Shared → Prop} {s : Shared} {h₀ : Heap} {L : Addr} {m : Str → Option Value} {news : List (Addr × Obj)}

theorem News.cons_push {o : Obj} (F : Fr h₀ L s.heap m) (N : News h₀ L s.heap news) (hf : o.isFreed = false) : News h₀ L (s.heap.push o) ((s.heap.objs.size, o) :: news) := by
  intro p hp
  rcases List.mem_cons.mp hp with rfl | hp
  · refine ⟨Heap.get?_push_size _ hf, Ne.symm (Nat.ne_of_lt F.ns.lt), ?_⟩
    exact Heap.get?_none_of_le (Nat.le_trans F.above (Nat.le_of_lt F.ns.lt))
  · exact ⟨Heap.get?_push_of_some _ (N p hp).1, (N p hp).2⟩

theorem split_method {Q : Value × List Value → Shared → Prop} {pl : Sem Bool} (F : Fr h₀ L s.heap m) (X : (hd.heap_39 w.params).In h₀) (h : Q (.builtin "re.Pattern.split", [.ref 36]) s) :
    wpAny (model PySem.Challenge.rw_dz0075_01.row.prog w) A (getMethod (.ref 36) (Str.ofString "split") pl) Q E s := by
  revert X
  k_fill
  intro X
  have X' := X.keeps F.keep
  have h36 := X' 36 _ (by k_is)
  exact getMethod_builtin ⟨_, h36, rfl⟩ PF.plain_pat PF.slot_split PF.type_split (fun a e => by cases e; exact ⟨_, h36, rfl⟩) h

theorem split_K {x : Str} {t : Tok} {Q : Value → Shared → Prop} (F : Fr h₀ L s.heap m) (X : (hd.heap_39 w.params).In h₀) (N : News h₀ L s.heap news) (hx : x.cps.size ≤ 100000)
    (h : ∀ vs tk, (∀ p ∈ news, @LT.lt Nat _ p.1 s.heap.objs.size) → StrsAre vs ((splitF x.cps.size x.cps.toList).map mkS) → Fr h₀ L (s.heap.push (W.listOf vs.toArray 0)) m → News h₀ L (s.heap.push (W.listOf vs.toArray 0)) ((s.heap.objs.size, W.listOf vs.toArray 0) :: news) →
      Q (.ref s.heap.objs.size) { s with heap := s.heap.push (W.listOf vs.toArray 0), toks := tk }) :
    wpAny (model PySem.Challenge.rw_dz0075_01.row.prog w) A (call (.builtin "re.Pattern.split") [.ref 36, .str x t]) Q E s := by
  revert X
  k_fill
  intro X
  have X' := X.keeps F.keep
  have h36 := X' 36 _ (by k_is)
  have h35 := X' 35 _ (by k_is)
  exact split_call h36 rfl h35 ⟨_, _, rfl⟩ ⟨0, by unfold codeA; rw [List.map_toArray]; rfl⟩ hx fun vs tk hvs => h vs tk (fun p hp => Heap.lt_size (N p hp).1) hvs (F.push _) (News.cons_push F N rfl)
end

local macro_rules | `(tactic| walk_at "getMethod ref") => `(tactic| (k_here; (with_reducible show wpAny _ _ (getMethod (Value.ref 36) (PySem.Str.ofString "split") _) _ _ _); k_dflt (refine' split_method ?F ?X ?_; (case F => k_asm); (case X => k_asm))))
local macro_rules | `(tactic| walk_at "call builtin:re.Pattern.split") => `(tactic| (k_here; k_dflt (refine' split_K ?F ?X ?N ?x ?_; (case F => k_asm); (case X => k_asm); (case N => k_asm); (case x => omega)); intro vs' tk' hlt' hvs' F' N'; (try k_sweep)))

section
variable {prog : Program} {w : World} {A : Around} {E : Value → Shared → Prop} {s : Shared} {mean : ExcName → Option Value} {mg mb : Str → Option Value} {loose : List Str} {h₀ : Heap} {L : Addr} {m : Str → Option Value} {news : List (Addr × Obj)}

theorem pieceD_len (p : List Nat) : (pieceD p).length ≤ 2 := by
  cases p with
  | nil => exact Nat.zero_le _
  | cons c r =>
    cases h1 : isSep c with
    | true => rw [pieceD_sep h1]; exact Nat.zero_le _
    | false =>
      cases h2 : Sre.isDigit c with
      | true => rw [pieceD_dig h1 h2]; exact Nat.le_refl _
      | false => rw [pieceD_let h1 h2]; exact Nat.le_refl _

theorem gone_size (h : Heap) (L : Addr) : (TI.gone h [L]).objs.size = h.objs.size := by
  show (Heap.update h L _).objs.size = _
  cases h
  simp [Heap.update]

theorem cv_call {x : Str} {t : Tok} {Q : Value → Shared → Prop} {cn : Str} {cs : Scope} {ca : Addr} {ccd : Value}
    (lo1 : Str.ofString "ValueError" ∉ loose) (lo2 : Str.ofString "ValueError" ∉ (clssOf hd.view_39 loose).map (·.name))
    (X₀ : (hd.heap_39 w.params).In h₀) (T₀ : Top hd.view_39 loose mean mg mb h₀) (F₀ : Fr h₀ L s.heap m) (hcs : cs.kind = .function)
    (hx : x.cps.size ≤ 400) (hok : ∀ p ∈ splitF x.cps.size x.cps.toList, Piece p ∧ p.length ≤ 400)
    (h : ∀ h' tk b vs n, Fr h₀ L h' m → (∀ c o, c ≠ L → s.heap.get? c = some o → h'.get? c = some o) → h'.get? b = some (W.listOf (vs : List Value).toArray n) → s.heap.get? b = none → DatAll [] vs ((splitF x.cps.size x.cps.toList).flatMap pieceD) → Q (.ref b) { s with heap := h', toks := tk }) :
    wpC (model PySem.Challenge.rw_dz0075_01.row.prog w) (callerA.deeper (envOf cn cs L ca ccd)) (call (.ref 44) [.str x t]) Q E s := by
  obtain ⟨oL, es, ep, hL, hLd, hLr⟩ := F₀.ns
  have hbk : ∀ b o, h₀.get? b = some o → (TI.gone s.heap [L]).get? b = some o := fun b o e => by
    refine (TI.gone_get ?_).trans (F₀.keep b o e)
    intro hm
    rw [List.mem_singleton.mp hm] at e
    exact absurd (Heap.lt_size e) (Nat.not_lt.mpr F₀.above)
  have hbs : ∀ b o, (TI.gone s.heap [L]).get? b = some o → s.heap.get? b = some o := fun b o e => (TI.gone_some e).2
  have hbL : (TI.gone s.heap [L]).get? L = none := TI.gone_none (by simp)
  have hbn : ∀ b, b ≠ L → (TI.gone s.heap [L]).get? b = none → s.heap.get? b = none := fun b hn e => by
    rw [← TI.gone_get (h := s.heap) (l := [L]) (by simpa using hn)]; exact e
  have hbe : ∀ b o, b ≠ L → s.heap.get? b = some o → (TI.gone s.heap [L]).get? b = some o := fun b o hn e => (TI.gone_get (by simpa using hn)).trans e
  have X := X₀.keeps hbk
  have T := T₀.keeps hbk
  have hsz := gone_size s.heap L
  have hLlt := Heap.lt_size hL
  have Fs : TI.Frs [envOf cn cs L ca ccd] [(L, oL)] := ⟨by show cs.kind ≠ .module; rw [hcs]; decide, rfl, ⟨es, ep, hLd⟩, trivial⟩
  generalize hhb : TI.gone s.heap [L] = hb at *
  have Xs := X₀.keeps F₀.keep
  have Ts := T₀.keeps F₀.keep
  have hsl := splitF_length x.cps.size x.cps.toList
  revert X
  k_fill
  intro X
  refine wpC_call ?_
  refine' call_baseC Xs Ts.nolimit ?k6 ?k7 (by simp only [depth_deeper, depth_caller]; decide) ?k9 ?kB ?_ ?c2 ?c3 ?c4 ?c5
  case k6 => k_is
  case k7 => k_is
  case k9 => exact BindsTo.of_eq rfl
  case kB => exact locs rfl
  case c2 => exact rfl
  case c3 => exact rfl
  case c4 => exact rfl
  case c5 => decide
  intro h₁ hns hk₁
  have F : Fr hb s.heap.objs.size h₁ _ := ⟨hns, fun b o e => hk₁ b o (hbs b o e), Nat.le_of_eq hsz⟩
  have N : News hb s.heap.objs.size h₁ [(L, oL)] := fun p hp => by
    rw [List.mem_singleton.mp hp]
    exact ⟨hk₁ _ _ hL, Nat.ne_of_lt hLlt, hbL⟩
  have hsome : ∀ b, s.heap.objs.size ≤ b → hb.get? b = none := fun b hle => Heap.get?_none_of_le (by omega)
  clear X₀ T₀ hk₁ hns Xs Ts
  (try dsimp only)
  refine execs_cutC (l1 := [_, _]) (l2 := [_, _]) ?_
  k_fold
  k_steps
  show wpC _ _ (execs [_, _] _) _ _ _
  refine wpC_execs_cons (wpC_For ?_)
  k_fold
  k_steps
  show wpAny _ _ (pyIter _) _ _ _
  rename Fr _ _ _ _ => F'
  rename News _ _ _ _ => N'
  rename StrsAre _ _ => hvs
  rename (∀ p ∈ _, @LT.lt Nat _ _ _) => hlt
  rename_i z0 z1 z2 z3 r z5 hLr' hC vs z9
  have hcell : hC.objs.size < (hC.push (W.listOf vs.toArray 0)).objs.size := by rw [Heap.size_push]; omega
  have hrl : @LT.lt Nat _ r hC.objs.size := hlt (r, _) (by k_mem)
  have hLI : s.heap.objs.size < (hC.push (W.listOf vs.toArray 0)).objs.size := F'.ns.lt
  have hIn := hsome _ (Nat.le_of_lt hLI)
  refine wpAny_pyIter_list (isList_N N' (by k_mem)) ?_
  dsimp only at F' N' ⊢
  generalize hI : (hC.push (W.listOf vs.toArray 0)).objs.size = I at *
  generalize hl : hC.objs.size = l at *
  have hLr1 : @LT.lt Nat _ L r := hLr'
  have hlI : @LT.lt Nat _ l I := hcell
  have q1 : @Ne Nat r I := Nat.ne_of_lt (Nat.lt_trans hrl hlI)
  have q2 : @Ne Nat r L := Ne.symm (Nat.ne_of_lt hLr1)
  have q3 : @Ne Nat r l := Nat.ne_of_lt hrl
  have q4 : @Ne Nat I L := Ne.symm (Nat.ne_of_lt (Nat.lt_trans hLr1 (Nat.lt_trans hrl hlI)))
  have q5 : @Ne Nat l L := Ne.symm (Nat.ne_of_lt (Nat.lt_trans hLr1 hrl))
  have hItems : ∀ (i : Nat) (v : Value), vs.toArray[i]? = some v → ∃ p, (splitF x.cps.size x.cps.toList)[i]? = some p ∧ ∃ t', v = Value.str (mkS p) t' := by
    intro i v hv
    have hv' : vs[i]? = some v := by simpa using hv
    obtain ⟨hi, e⟩ := List.getElem?_eq_some_iff.mp hv'
    obtain ⟨hi', t', e'⟩ := strsAre_at hvs i hi
    rw [List.length_map] at hi'
    refine ⟨(splitF x.cps.size x.cps.toList)[i], List.getElem?_eq_getElem hi', t', ?_⟩
    rw [← e, e', List.getElem_map]
  have hvl : vs.length = (splitF x.cps.size x.cps.toList).length := by have := hvs.length; rw [List.length_map] at this; exact this
  refine ⟨I, [I, l], [I], vs.toArray.size, (fun i v => vs.toArray[i]? = some v), (fun i h => h.IsListIter I l i ∧ h.IsList l vs.toArray),
    (fun i s₃ => ∃ (hh : Heap) (tk : Nat) (rs : List Value) (n : Nat) (u : Str → Option Value) (sl : Array (Option Value)), s₃ = { s with heap := hh, toks := tk } ∧ Fr hb s.heap.objs.size hh (fun y => if y = Str.ofString "result" then some (.ref r) else u y) ∧
      News hb s.heap.objs.size hh [(r, W.listOf rs.toArray n), (l, W.listOf vs.toArray 0), (L, { oL with slots := sl })] ∧ TI.Frs [envOf cn cs L ca ccd] [(L, { oL with slots := sl })] ∧ DatAll [] rs (((splitF x.cps.size x.cps.toList).take i).flatMap pieceD) ∧ rs.length ≤ 2 * i),
    rfl, Walks.list rfl I l (Nat.ne_of_lt hcell) _, ⟨⟨_, by rw [← hI]; exact Heap.get?_push_size _ rfl, rfl, rfl⟩, ?_⟩, ?_, ?_, ?_⟩
  · exact ⟨_, Heap.get?_push_of_some _ (N' (l, _) (by k_mem)).1, rfl, 0, rfl⟩
  · refine ⟨_, _, [], 0, _, oL.slots, rfl, Fr.norm1 (F'.push _) rfl, ?_, Fs, .nil, by simp⟩
    intro p hp
    have hk : ∀ b o, (hC.push (W.listOf vs.toArray 0)).get? b = some o → ((hC.push (W.listOf vs.toArray 0)).push { cls := .type "list_iterator", data := .fields #[.ref l, .int 0 0] }).get? b = some o := fun b o e => Heap.get?_push_of_some _ e
    have hm : p ∈ [(l, W.listOf vs.toArray 0), (r, W.listOf #[] 0), (L, oL)] := by
      simp only [List.mem_cons, List.not_mem_nil, or_false] at hp ⊢
      rcases hp with hp | hp | hp
      · exact .inr (.inl hp)
      · exact .inl hp
      · exact .inr (.inr hp)
    exact ⟨hk _ _ (N' p hm).1, (N' p hm).2⟩
  · rintro i s₃ v h₁ tk hi hst ⟨hh', tk', rs, n, u, sl, rfl, F₁, N₁, Fs₁, hD, hlen⟩ hv ⟨⟨oI, hoI, hI1, hI2⟩, hst2⟩ hk
    obtain ⟨p, hp, t', rfl⟩ := hItems i v hv
    have hpm := hok p (List.mem_of_getElem? hp)
    have F₂ := Fr.but F₁ hk (Nat.ne_of_lt hLI) hIn
    have N₂ := News.but N₁ hk (by
      intro q hq
      simp only [List.mem_cons, List.not_mem_nil, or_false] at hq
      rcases hq with rfl | rfl | rfl
      · exact q1
      · exact Nat.ne_of_lt hlI
      · exact Ne.symm q4)
    have N₃ : News hb s.heap.objs.size h₁ [(r, W.listOf rs.toArray n), (I, oI), (l, W.listOf vs.toArray 0), (L, { oL with slots := sl })] := by
      intro q hq
      simp only [List.mem_cons, List.not_mem_nil, or_false] at hq
      rcases hq with rfl | rfl | rfl | rfl
      · exact N₂ _ (by k_mem)
      · exact ⟨hoI, Ne.symm (Nat.ne_of_lt hLI), hIn⟩
      · exact N₂ _ (by k_mem)
      · exact N₂ _ (by k_mem)
    have htake : (splitF x.cps.size x.cps.toList).take (i + 1) = (splitF x.cps.size x.cps.toList).take i ++ [p] := by
      rw [List.take_add_one, hp]; rfl
    have hi' : i < 801 := by
      have : i < vs.length := by simpa using hi
      omega
    refine stN F₂ N₃ (fun h₂ F₃ N₄ => ?_)
    refine' cv_turn lo1 lo2 rfl Fs₁ rfl X T F₃ N₄ q1 q2 q3 q4 q5 (by omega) hpm.2 hpm.1 ?ho ?e1 ?e2 ?_
    case ho => k_is
    case e1 => rfl
    case e2 => rfl
    intro h' tk₂ u' n' rs' sl' F₄ N₅ hD' Fs'
    have hl' := hD'.length
    have hl2 := pieceD_len p
    refine ⟨⟨⟨oI, (N₅ (I, oI) (by k_mem)).1, hI1, hI2⟩, ⟨_, (N₅ (l, _) (by k_mem)).1, rfl, 0, rfl⟩⟩, h', tk₂, rs ++ rs', n', u', sl', rfl, F₄, ?_, Fs', ?_, by rw [List.length_append]; omega⟩
    · intro q hq
      simp only [List.mem_cons, List.not_mem_nil, or_false] at hq
      rcases hq with rfl | rfl | rfl
      · exact N₅ _ (by k_mem)
      · exact N₅ _ (by k_mem)
      · exact N₅ _ (by k_mem)
    · rw [htake, List.flatMap_append]
      exact hD.append (by simpa using hD')
  · rintro s₃ h₂ tk hst ⟨hh', tk', rs, n, u, sl, rfl, F₁, N₁, Fs₁, hD, hlen⟩ hk
    have F₂ := Fr.but F₁ hk (Nat.ne_of_lt hLI) hIn
    have N₂ := News.but N₁ hk (by
      intro q hq
      simp only [List.mem_cons, List.not_mem_nil, or_false] at hq
      rcases hq with rfl | rfl | rfl
      · exact q1
      · exact Nat.ne_of_lt hlI
      · exact Ne.symm q4)
    rw [List.take_of_length_le (by simp; omega)] at hD
    refine wpC_of (wpAny_execs_cons ?_)
    rw [exec_Return_some]
    refine wpAny_bind (wpAny_standAt (wpAny_bind (ld F₂ rfl (wpAny_pure ?_))))
    refine h _ _ r rs n ⟨⟨_, es, ep, (N₂ (L, { oL with slots := sl }) (by k_mem)).1, hLd, hLr⟩, fun b o e => F₂.keep b o (hbk b o e), F₀.above⟩ (fun c o hn e => F₂.keep c o (hbe c o hn e)) (N₂ (r, W.listOf rs.toArray n) (by k_mem)).1 (hbn r q2 (N₂ (r, W.listOf rs.toArray n) (by k_mem)).2.2) hD
end
end Mine
end

section
open PySem PySem.W PyProof.Rows PySem.Calls PySem.NumText
set_option maxRecDepth 100000
set_option maxHeartbeats 2000000
namespace Mine
theorem calm_C16 : True := by
  w_top off
  trivial

theorem okW {c : Nat} (h : okC c = true) (hw : isW c = true) : isLet c = true := by
  unfold isW at hw
  unfold okC at h
  cases h1 : isSep c <;> cases h2 : Sre.isDigit c <;> rw [h1, h2] at hw h <;> simp_all
theorem okNW {c : Nat} (hw : isW c = false) (hd : Sre.isDigit c = false) : isSep c = true := by
  unfold isW at hw
  rw [hd] at hw
  simpa using hw
theorem dropWhile_head {α : Type} {p : α → Bool} : ∀ {l : List α} {c : α} {r : List α}, l.dropWhile p = c :: r → p c = false
  | [], _, _, h => by cases h
  | a :: l, c, r, h => by
    rw [List.dropWhile_cons] at h
    cases hp : p a with
    | true => rw [hp] at h; exact dropWhile_head h
    | false => rw [hp] at h; injection h with h1; rw [← h1]; exact hp
theorem takeWhile_p {α : Type} {p : α → Bool} : ∀ {l : List α} {c : α}, c ∈ l.takeWhile p → p c = true
  | a :: l, c, h => by
    rw [List.takeWhile_cons] at h
    cases hp : p a with
    | true =>
      rw [hp] at h
      rcases List.mem_cons.mp h with rfl | h
      · exact hp
      · exact takeWhile_p h
    | false => rw [hp] at h; cases h

theorem nextTok_cases {l : List Nat} (hok : ∀ c ∈ l, okC c = true) :
    (∃ wd, nextTok l = (wd, none) ∧ l = wd ∧ ∀ c ∈ wd, isLet c = true) ∨
    (∃ wd c r, nextTok l = (wd, some ([c], r)) ∧ l = wd ++ (c :: r) ∧ (∀ c ∈ wd, isLet c = true) ∧ isSep c = true) ∨
    (∃ wd c ds r, nextTok l = (wd, some (c :: ds, r)) ∧ l = wd ++ ((c :: ds) ++ r) ∧ (∀ c ∈ wd, isLet c = true) ∧ (∀ d ∈ c :: ds, Sre.isDigit d = true) ∧ ∀ d r', r = d :: r' → Sre.isDigit d = false) := by
  have hlet : ∀ c ∈ l.takeWhile isW, isLet c = true := fun c hc => okW (hok c (List.takeWhile_subset _ hc)) (takeWhile_p hc)
  have e := List.takeWhile_append_dropWhile (p := isW) (l := l)
  unfold nextTok
  cases hd : l.dropWhile isW with
  | nil =>
    refine .inl ⟨_, rfl, ?_, hlet⟩
    rw [hd, List.append_nil] at e
    exact e.symm
  | cons c r =>
    rw [hd] at e
    have hw := dropWhile_head hd
    cases hc : Sre.isDigit c with
    | false => exact .inr (.inl ⟨_, c, r, by simp [hc], e.symm, hlet, okNW hw hc⟩)
    | true =>
      refine .inr (.inr ⟨_, c, r.takeWhile Sre.isDigit, r.dropWhile Sre.isDigit, by simp [hc], ?_, hlet, ?_, ?_⟩)
      · rw [List.cons_append, List.takeWhile_append_dropWhile]; exact e.symm
      · intro d hdd
        rcases List.mem_cons.mp hdd with rfl | hdd
        · exact hc
        · exact takeWhile_p hdd
      · intro d r' hr
        exact dropWhile_head hr

theorem splitF_pieces : ∀ (n : Nat) (l : List Nat), l.length ≤ n → (∀ c ∈ l, okC c = true) → ∀ p ∈ splitF n l, Piece p ∧ p.length ≤ l.length
  | 0, l, hl, hok, p, hp => by
    have e : l = [] := List.length_eq_zero_iff.mp (by omega)
    subst e
    unfold splitF at hp
    rw [List.mem_singleton.mp hp]
    exact ⟨.inl rfl, Nat.le_refl _⟩
  | n + 1, l, hl, hok, p, hp => by
    have hwd : ∀ wd : List Nat, (∀ c ∈ wd, isLet c = true) → Piece wd := fun wd h => by
      by_cases hn : wd = []
      · exact .inl hn
      · exact .inr (.inr (.inr ⟨hn, h⟩))
    unfold splitF at hp
    rcases nextTok_cases hok with ⟨wd, hn, e, hlet⟩ | ⟨wd, c, r, hn, e, hlet, hs⟩ | ⟨wd, c, ds, r, hn, e, hlet, hds, _⟩
    · rw [hn] at hp
      rw [List.mem_singleton.mp hp]
      exact ⟨hwd wd hlet, by rw [e]; exact Nat.le_refl _⟩
    · rw [hn] at hp
      have hlen : l.length = wd.length + (r.length + 1) := by rw [e]; simp
      rcases List.mem_cons.mp hp with rfl | hp
      · exact ⟨hwd _ hlet, by omega⟩
      · rcases List.mem_cons.mp hp with rfl | hp
        · exact ⟨.inr (.inl ⟨c, hs, rfl⟩), by simp; omega⟩
        · have := splitF_pieces n r (by omega) (fun d hd => hok d (by rw [e]; simp [hd])) p hp
          exact ⟨this.1, by omega⟩
    · rw [hn] at hp
      have hlen : l.length = wd.length + ((ds.length + 1) + r.length) := by rw [e]; simp; omega
      rcases List.mem_cons.mp hp with rfl | hp
      · exact ⟨hwd _ hlet, by omega⟩
      · rcases List.mem_cons.mp hp with rfl | hp
        · exact ⟨.inr (.inr (.inl ⟨by simp, hds⟩)), by simp; omega⟩
        · have := splitF_pieces n r (by omega) (fun d hd => hok d (by rw [e]; simp [hd])) p hp
          exact ⟨this.1, by omega⟩

theorem strExt {x y : Str} (h : x.cps = y.cps) : x = y := by
  cases x; cases y; cases h; rfl
theorem mkS_app (x : Str) (c : Nat) (r : List Nat) : x ++ (⟨#[c]⟩ : Str) ++ mkS r = x ++ mkS (c :: r) := by
  apply strExt
  rw [Str.cps_append, Str.cps_append, Str.cps_append]
  apply Array.toList_inj.mp
  simp [mkS]
theorem fold_word {d : List Dat} : ∀ (r : List Nat) (x : Str), (∀ c ∈ r, isLet c = true) → r.foldl stepC (d, .word x) = (d, .word (x ++ mkS r))
  | [], x, _ => by
    have : x ++ mkS [] = x := by
      apply strExt
      rw [Str.cps_append]
      apply Array.toList_inj.mp
      simp [mkS]
    rw [this]; rfl
  | c :: r, x, h => by
    have hc := let_not (h c (by simp))
    rw [List.foldl_cons, stepC_word hc.1 hc.2, fold_word r _ fun e he => h e (by simp [he]), mkS_app]
theorem fold_num {d : List Dat} : ∀ (r : List Nat) (k : Nat), (∀ c ∈ r, Sre.isDigit c = true) → r.foldl stepC (d, .num (k : Int)) = (d, .num ((r.foldl (fun acc c => acc * 10 + (c - 48)) k : Nat) : Int))
  | [], k, _ => rfl
  | c :: r, k, h => by
    have hc := h c (by simp)
    rw [List.foldl_cons, List.foldl_cons, stepC_num (dig_not hc) hc]
    have e : (k : Int) * 10 + ((c - 48 : Nat) : Int) = ((k * 10 + (c - 48) : Nat) : Int) := by push_cast; rfl
    rw [e]
    exact fold_num r _ fun e he => h e (by simp [he])

def outC (st : List Dat × Cur) : List Dat := st.1 ++ ren st.2
/-- a word behind what is no word -/
theorem fold_let {st : List Dat × Cur} {wd : List Nat} (hst : ∀ x, st.2 ≠ .word x) (h : ∀ c ∈ wd, isLet c = true) :
    ∃ st', wd.foldl stepC st = st' ∧ outC st' = outC st ++ pieceD wd ∧ (wd = [] → st' = st) ∧ (wd ≠ [] → ∃ x, st'.2 = .word x) := by
  cases wd with
  | nil => exact ⟨st, rfl, by rw [show pieceD [] = [] from rfl, List.append_nil], fun _ => rfl, fun h => absurd rfl h⟩
  | cons c r =>
    obtain ⟨d, q⟩ := st
    have hc := let_not (h c (by simp))
    refine ⟨_, rfl, ?_, fun h => (by cases h), fun _ => ?_⟩
    · rw [List.foldl_cons, stepC_wordN hc.1 hc.2 hst, fold_word r _ fun e he => h e (by simp [he]), pieceD_let hc.1 hc.2]
      have e : (⟨#[c]⟩ : Str) ++ mkS r = mkS (c :: r) := by
        apply strExt
        rw [Str.cps_append]
        apply Array.toList_inj.mp
        simp [mkS]
      rw [e]
      rfl
    · rw [List.foldl_cons, stepC_wordN hc.1 hc.2 hst, fold_word r _ fun e he => h e (by simp [he])]
      exact ⟨_, rfl⟩

theorem split_told : ∀ (n : Nat) (l : List Nat) (st : List Dat × Cur), l.length ≤ n → (∀ c ∈ l, okC c = true) → (∀ x, st.2 ≠ .word x) → (∀ k c r, st.2 = .num k → l = c :: r → Sre.isDigit c = false) →
    ((l ++ [46]).foldl stepC st).1 = outC st ++ (splitF n l).flatMap pieceD
  | 0, l, st, hl, hok, h1, h2 => by
    have e : l = [] := List.length_eq_zero_iff.mp (by omega)
    subst e
    show (stepC st 46).1 = _
    rw [stepC_sep (by decide)]
    show outC st = outC st ++ ([[]] : List (List Nat)).flatMap pieceD
    rw [show ([[]] : List (List Nat)).flatMap pieceD = [] from rfl, List.append_nil]
  | n + 1, l, st, hl, hok, h1, h2 => by
    rw [List.foldl_append]
    unfold splitF
    rcases nextTok_cases hok with ⟨wd, hn, e, hlet⟩ | ⟨wd, c, r, hn, e, hlet, hs⟩ | ⟨wd, c, ds, r, hn, e, hlet, hds, hhd⟩
    · rw [hn]
      obtain ⟨st', e1, e2, _, _⟩ := fold_let h1 hlet
      rw [e, e1]
      show (stepC st' 46).1 = _
      rw [stepC_sep (by decide)]
      show outC st' = outC st ++ ([wd] : List (List Nat)).flatMap pieceD
      rw [e2]
      simp
    · rw [hn]
      have hlen : l.length = wd.length + (r.length + 1) := by rw [e]; simp
      obtain ⟨st', e1, e2, _, _⟩ := fold_let h1 hlet
      rw [e, List.foldl_append, e1, show ∀ x r, List.foldl stepC st' (x :: r) = List.foldl stepC (stepC st' x) r from fun _ _ => rfl, stepC_sep hs]
      rw [← List.foldl_append]
      rw [split_told n r (st'.1 ++ ren st'.2, .no) (by omega) (fun d hd => hok d (by rw [e]; simp [hd])) (fun x h => by cases h) (fun k c r h => by cases h)]
      show outC (outC st', .no) ++ _ = _
      rw [show outC (outC st', .no) = outC st' from List.append_nil _, e2]
      simp only [List.flatMap_cons, pieceD_sep hs, List.nil_append, List.append_assoc]
    · rw [hn]
      have hlen : l.length = wd.length + ((ds.length + 1) + r.length) := by rw [e]; simp; omega
      obtain ⟨st', e1, e2, e3, e4⟩ := fold_let h1 hlet
      have hc := hds c (by simp)
      have hnn : ∀ k, st'.2 ≠ .num k := by
        intro k hk
        by_cases hw : wd = []
        · rw [e3 hw] at hk
          have := h2 k c (ds ++ r) hk (by rw [e, hw]; rfl)
          rw [hc] at this
          cases this
        · obtain ⟨x, hx⟩ := e4 hw
          rw [hx] at hk
          cases hk
      rw [e, List.foldl_append, e1, List.foldl_append, show ∀ x r, List.foldl stepC st' (x :: r) = List.foldl stepC (stepC st' x) r from fun _ _ => rfl]
      obtain ⟨d, q⟩ := st'
      rw [stepC_numN (dig_not hc) hc hnn, fold_num ds _ fun e he => hds e (by simp [he])]
      rw [← List.foldl_append]
      rw [split_told n r _ (by omega) (fun d hd => hok d (by rw [e]; simp [hd])) (fun x h => by cases h) (fun k c r' _ h => hhd c r' h)]
      have ed : digitsVal (c :: ds) = ds.foldl (fun acc c => acc * 10 + (c - 48)) (c - 48) := by
        unfold digitsVal
        rw [List.foldl_cons, Nat.zero_mul, Nat.zero_add]
      simp only [List.flatMap_cons, pieceD_dig (dig_not hc) hc, ed]
      rw [← List.append_assoc, ← List.append_assoc, ← e2]
      rfl

theorem law_plain (l : List Nat) (hok : ∀ c ∈ l, okC c = true) : (splitF l.length l).flatMap pieceD = toldOf l := by
  have := split_told l.length l ([], .no) (Nat.le_refl _) hok (fun x h => by cases h) (fun k c r h => by cases h)
  unfold toldOf foldC
  rw [this]
  rfl
end Mine
end

section
open PySem PySem.W PyProof.Rows PySem.Calls
set_option maxRecDepth 100000
set_option maxHeartbeats 8000000
namespace Mine
theorem calm_L1 : True := by
  w_top off
  trivial

def okP (y : Str) : Bool := y.cps.toList.all okC && decide (y.length ≤ 5)
theorem ok_item4 (i : Int) (h0 : 0 ≤ i) (h1 : i < 4) : okP (Txt.item (Str.ofString "._+-") i) = true := by
  have : i = 0 ∨ i = 1 ∨ i = 2 ∨ i = 3 := by omega
  rcases this with rfl | rfl | rfl | rfl <;> decide +kernel
theorem ok_item8 (i : Int) (h0 : 0 ≤ i) (h1 : i < 8) : okP (Txt.item (Str.ofString "abcplrCd") i) = true := by
  have : i = 0 ∨ i = 1 ∨ i = 2 ∨ i = 3 ∨ i = 4 ∨ i = 5 ∨ i = 6 ∨ i = 7 := by omega
  rcases this with rfl | rfl | rfl | rfl | rfl | rfl | rfl | rfl <;> decide +kernel
theorem Fr.normP {h₀ h : Heap} {L : Addr} {m : Str → Option Value} {v1 : Value} (F : Fr h₀ L h m) (e1 : m (Str.ofString "pieces") = some v1) :
    Fr h₀ L h (fun y => if y = Str.ofString "pieces" then some v1 else m y) := by
  have e : (fun y => if y = Str.ofString "pieces" then some v1 else m y) = m := by
    funext y
    by_cases h1 : y = Str.ofString "pieces"
    · rw [if_pos h1, h1, e1]
    · rw [if_neg h1]
  rw [e]; exact F
theorem News.threeP {h₀ h : Heap} {L P I l : Addr} {rs : List Value} {v : Value} {n : Nat} {o2 o3 : Obj} {news : List (Addr × Obj)} (N : News h₀ L h news) (h1 : (P, W.listOf (rs.toArray.push v) n) ∈ news) (h2 : (I, o2) ∈ news) (h3 : (l, o3) ∈ news) :
    News h₀ L h [(P, W.listOf (rs ++ [v]).toArray n), (I, o2), (l, o3)] := fun p hp => by
  simp only [List.mem_cons, List.not_mem_nil, or_false] at hp
  rcases hp with rfl | rfl | rfl
  · have := N _ h1
    rw [List.push_toArray] at this
    exact this
  · exact N _ h2
  · exact N _ h3

section
variable {w : World} {s : Shared} {mean : ExcName → Option Value} {mg mb : Str → Option Value} {loose : List Str}

theorem law_turn1 {A : Around} {Q : Flow → Shared → Prop} {P I l L : Addr} {n : Nat} {oI ol : Obj} {tv : Tok} {x : Int} {u : Str → Option Value} {h₀ : Heap} {rs : List Value} {fa : Addr} {cd : Value}
    (X : (hd.heap_39 w.params).In h₀) (T : Top hd.view_39 loose mean mg mb h₀)
    (F : Fr h₀ L s.heap (fun y => if y = Str.ofString "number" then some (.int x tv) else if y = Str.ofString "pieces" then some (.ref P) else u y))
    (N : News h₀ L s.heap [(P, W.listOf rs.toArray n), (I, oI), (l, ol)]) (n1 : @Ne Nat P I) (n2 : @Ne Nat P l) (hlen : rs.length ≤ 2000)
    (hQ : ∀ h' tk (u' : Str → Option Value) n' y t, Fr h₀ L h' (fun y => if y = Str.ofString "pieces" then some (.ref P) else u' y) → News h₀ L h' [(P, W.listOf (rs ++ [Value.str y t]).toArray n'), (I, oI), (l, ol)] → okP y = true →
      Q .next { s with heap := h', toks := tk }) :
    ∀ o, (hd.heap_39 w.params).lookup 63 = some o →
    wpAny (model PySem.Challenge.rw_dz0075_01.row.prog w) (A.deeper (envOf (Str.ofString "law") (funScope o) L fa cd)) (execs (match funBody o with | _ :: .For _ _ b _ _ :: _ => b | _ => []) (envOf (Str.ofString "law") (funScope o) L fa cd)) Q (fun _ _ => False) s := by
  revert X
  k_fill
  intro X
  refine' elimO ?hk ?_
  case hk => k_is
  dsimp only [funBody, funScope]
  obtain ⟨hp, gs, dr, tk, os⟩ := s
  dsimp only at F N ⊢
  k_steps
  all_goals (
    rename Fr _ _ _ _ => F'
    rename News _ _ _ _ => N'
    refine hQ _ _ _ _ _ _ (Fr.normP F' rfl) (News.threeP N' (by k_mem) (by k_mem) (by k_mem)) ?_)
  · decide +kernel
  · decide +kernel
  · decide +kernel
  · exact ok_item4 _ (Int.fmod_nonneg_of_pos _ (by decide)) (Int.fmod_lt_of_pos _ (by decide))
  · exact ok_item8 _ (Int.fmod_nonneg_of_pos _ (by decide)) (Int.fmod_lt_of_pos _ (by decide))
  · decide +kernel
  · decide +kernel
  · decide +kernel

end
end Mine
end

section
open PySem PySem.W PyProof.Rows PySem.Calls
set_option maxRecDepth 100000
set_option maxHeartbeats 8000000
namespace Mine
theorem calm_L2 : True := by
  w_top off
  trivial

theorem Fr.normV {h₀ h : Heap} {L : Addr} {m : Str → Option Value} {v1 : Value} (F : Fr h₀ L h m) (e1 : m (Str.ofString "version") = some v1) :
    Fr h₀ L h (fun y => if y = Str.ofString "version" then some v1 else m y) := by
  have e : (fun y => if y = Str.ofString "version" then some v1 else m y) = m := by
    funext y
    by_cases h1 : y = Str.ofString "version"
    · rw [if_pos h1, h1, e1]
    · rw [if_neg h1]
  rw [e]; exact F

section
variable {prog : Program} {w : World} {A : Around} {E : Value → Shared → Prop} {s : Shared} {h₀ : Heap} {L l b : Addr} {news : List (Addr × Obj)} {vs : List Value} {n n2 : Nat}
theorem ne_same {Q : Value → Shared → Prop} (N : News h₀ L s.heap news) (hl : (l, ({ cls := .type "list", data := .seq vs.toArray n } : Obj)) ∈ news) (hb : (b, ({ cls := .type "list", data := .seq vs.toArray n2 } : Obj)) ∈ news) (he : ∀ v ∈ vs, (v == v) = true) (hu : A.units < cLine)
    (h : Q (.bool false) s) : wpAny (model prog w) A (compareOp .NotEq (.ref l) (.ref b)) Q E s := by
  refine richCompare_meets_room (op := .NotEq) ⟨_, (N _ hl).1, rfl⟩ ⟨_, (N _ hb).1, rfl⟩ PySem.F.slot_list_ne PySem.F.entry_list_ne (PySem.F.args_list_ne_2 _ _) (SeqAt.list_neAt l b vs.toArray vs.toArray n n2 none none #[] #[] rfl (fun _ => true))
    ⟨(N _ hl).1, (N _ hb).1, fun j h1 h2 prog w E Q hq => ?_, ?_⟩ hu
  · have e : (vs.toArray[j] == vs.toArray[j]) = true := he _ (by simp)
    unfold eqBool
    refine wpAny_holding ?_
    rw [if_pos e]
    exact wpAny_bind (wpAny_rule (wpAny_pure hq))
  · have e : (!(List.range vs.toArray.size).all fun _ => true) = false := by simp
    rw [e]
    exact ⟨(fun x => nomatch x), h⟩
end

def tyOf : Dat → Value
  | .int _ => .type "int"
  | _ => .type "str"
def flatD (d : Dat) : Prop := (∃ i, d = .int i) ∨ ∃ x, d = .str x ∧ PyData.strOk x = true
theorem flat_ok {d : Dat} (h : flatD d) : kqdOk 8 d = true := by
  rcases h with ⟨i, rfl⟩ | ⟨x, rfl, hx⟩
  · rfl
  · exact hx

section
variable {prog : Program} {w : World} {A : Around} {h₀ : Heap} {L : Addr} {m : Str → Option Value} {env : Env} {s : Shared} {elt : PySem.Expr} {x : Str} {scope : Scope} {cl : List (Str × Addr)} {S : List (Addr × Obj) → Prop} {Fin : List Value → List (Addr × Obj) → Prop} {news : List (Addr × Obj)}
theorem ty_rest {vs : List Value} {ds : List Dat} (hD : DatAll [] vs ds) (hf : ∀ d ∈ ds, flatD d)
    (turnI : ∀ k t I oI C oC D m₂ ys h tk (E' : Value → Shared → Prop), LCg.NsObj oC m₂ → m₂ x = some (.int k t) → Fr h₀ L h m → News h₀ L h ((I, oI) :: (C, oC) :: (D, LCg.lst ys) :: news) → LCg.Off3 I C D news → ((@Ne Nat I C) ∧ (@Ne Nat I D) ∧ (@Ne Nat C D)) →
      wpAny (model prog w) A (eval elt (compEnvC scope cl C env)) (LCg.CompEnd h₀ L m { s with heap := h, toks := tk } I oI C oC D (LCg.lst ys) S (fun y news' => Stop (y = .type "int" ∧ news' = news))) E' { s with heap := h, toks := tk })
    (turnS : ∀ k t I oI C oC D m₂ ys h tk (E' : Value → Shared → Prop), LCg.NsObj oC m₂ → m₂ x = some (.str k t) → Fr h₀ L h m → News h₀ L h ((I, oI) :: (C, oC) :: (D, LCg.lst ys) :: news) → LCg.Off3 I C D news → ((@Ne Nat I C) ∧ (@Ne Nat I D) ∧ (@Ne Nat C D)) →
      wpAny (model prog w) A (eval elt (compEnvC scope cl C env)) (LCg.CompEnd h₀ L m { s with heap := h, toks := tk } I oI C oC D (LCg.lst ys) S (fun y news' => Stop (y = .type "str" ∧ news' = news))) E' { s with heap := h, toks := tk })
    (fin : Fin (ds.map tyOf) news) : LCg.CompRest prog w A h₀ L m env elt x scope cl s S (fun i v => vs.toArray[i]? = some v) Fin vs.toArray.size 0 [] news := by
  have hlen := hD.length
  have key : ∀ (k i : Nat), i + k = vs.toArray.size → LCg.CompRest prog w A h₀ L m env elt x scope cl s S (fun i v => vs.toArray[i]? = some v) Fin k i ((ds.take i).map tyOf) news := by
    intro k
    induction k with
    | zero =>
      intro i hi
      have : ds.take i = ds := List.take_of_length_le (by simp at hi; omega)
      rw [this]
      exact LCg.CompRest.zero fin
    | succ k ih =>
      intro i hi
      refine LCg.CompRest.succ fun v I oI C oC D m₂ h tk E' hv hC hx F N off ne => ?_
      have hi' : i < ds.length := by simp at hi; omega
      obtain ⟨v', hv', hd⟩ := hD.get hi'
      have e : v' = v := by
        have h2 : vs[i]? = some v := by simpa using hv
        rw [hv'] at h2
        exact Option.some.inj h2
      subst e
      have htake : (ds.take i).map tyOf ++ [tyOf ds[i]] = (ds.take (i + 1)).map tyOf := by
        rw [List.take_add_one, List.getElem?_eq_getElem hi', List.map_append]; rfl
      have step : ∀ {T : Value}, T = tyOf ds[i] → ∀ y s₂, LCg.CompEnd h₀ L m { s with heap := h, toks := tk } I oI C oC D (LCg.lst ((ds.take i).map tyOf)) S (fun y news' => Stop (y = T ∧ news' = news)) y s₂ →
          LCg.CompEnd h₀ L m { s with heap := h, toks := tk } I oI C oC D (LCg.lst ((ds.take i).map tyOf)) S (fun y news' => LCg.CompRest prog w A h₀ L m env elt x scope cl s S (fun i v => vs.toArray[i]? = some v) Fin k (i + 1) ((ds.take i).map tyOf ++ [y]) news') y s₂ := by
        rintro T hT y s₂ ⟨h', tk', news', e1, F', N', off', hS, e2, e3⟩
        subst e2 e3
        refine ⟨h', tk', _, e1, F', N', off', hS, ?_⟩
        rw [hT]
        dsimp only
        rw [htake]
        exact ih (i + 1) (by omega)
      rcases hf _ (List.getElem_mem hi') with ⟨q, hq⟩ | ⟨q, hq, _⟩
      · rw [hq] at hd
        cases hd with
        | int _ t => exact wpAny_mono (turnI q t I oI C oC D m₂ _ h tk E' hC hx F N off ne) (step (by rw [hq]; rfl)) fun _ _ e => e
      · rw [hq] at hd
        cases hd with
        | str _ t => exact wpAny_mono (turnS q t I oI C oC D m₂ _ h tk E' hC hx F N off ne) (step (by rw [hq]; rfl)) fun _ _ e => e
  exact key _ 0 (by simp)
end
end Mine
end

section
open PySem PySem.W PyProof.Rows PySem.Calls
set_option maxRecDepth 100000
set_option maxHeartbeats 8000000
namespace Mine
theorem calm_L3 : True := by
  w_top off
  trivial

section
variable {w : World} {A : Around} {E : Value → Shared → Prop} {s : Shared} {mean : ExcName → Option Value} {mg mb : Str → Option Value} {loose : List Str} {h₀ : Heap} {L : Addr} {m : Str → Option Value} {news : List (Addr × Obj)}
theorem told_K {x : Str} {t : Tok} {Q : Value → Shared → Prop} (F : Fr h₀ L s.heap m) (X : (hd.heap_39 w.params).In h₀) (N : News h₀ L s.heap news) (T : Top hd.view_39 loose mean mg mb h₀) (hroom : A.depth + 1 < recursionLimit) (hh : A.handled = none)
    (hx : x.cps.size ≤ 400) (hok : ∀ c ∈ x.cps.toList, okC c = true)
    (h : ∀ h' tk a vs n, Fr h₀ L h' m → News h₀ L h' ((a, W.listOf (vs : List Value).toArray n) :: news) → DatAll [] vs (toldOf x.cps.toList) → Q (.ref a) { s with heap := h', toks := tk }) :
    wpAny (model PySem.Challenge.rw_dz0075_01.row.prog w) A (call (.ref 58) [.str x t]) Q E s := by
  refine told_call (X.keeps F.keep) (T.keeps F.keep) hroom hh hx hok fun h' tk a vs n k ha hn hD => ?_
  refine h h' tk a vs n (Fr.stays F k) ?_ hD
  intro p hp
  rcases List.mem_cons.mp hp with rfl | hp
  · refine ⟨ha, ?_, ?_⟩
    · rintro rfl
      obtain ⟨o, _, _, e, _⟩ := F.ns
      rw [hn] at e
      cases e
    · cases e : h₀.get? a with
      | none => rfl
      | some o => have := F.keep a o e; rw [hn] at this; cases this
  · exact ⟨k _ _ (N p hp).1, (N p hp).2⟩
end

theorem ty_refl (ds : List Dat) : ∀ v ∈ ds.map tyOf, (v == v) = true := by
  intro v hv
  obtain ⟨d, _, rfl⟩ := List.mem_map.mp hv
  cases d <;> rfl

local macro_rules | `(tactic| walk_at "call ref") => `(tactic| (k_here; (with_reducible show wpAny _ _ (call (Value.ref 58) [Value.str _ _]) _ _ _); k_dflt (refine' told_K ?k1 ?k2 ?k3 ?k4 ?k5 ?k6 ?k7 ?k8 ?_; (case k1 => k_asm); (case k2 => k_asm); (case k3 => k_asm); (case k4 => k_asm); (case k5 => (simp only [depth_deeper, depth_caller]; decide)); (case k6 => rfl); (case k7 => assumption); (case k8 => assumption); k_whole); intro h' tk' a' vs' n' F' N' D'; have hvl' := DatAll.length D'; (try k_sweep)))
local macro_rules | `(tactic| walk_at "eval ListComp") => `(tactic| (k_here; k_dflt (refine LCg.ListComp_U (F₀ := by k_asm) (by with_unfolding_all rfl) (by decide) (by rfl) (by decide) (by rfl) ?_)))
local macro_rules | `(tactic| walk_at "CompSrc") => `(tactic| (k_here; k_dflt (refine LCg.CompSrc.ledger (by rfl) (by k_asm) (by k_asm) (by k_mem) ?sz ?_; (case sz => (rw [sizeLine_eq]; simp only [List.size_toArray]; omega)); intro g'; (refine' ty_rest (by assumption) (by assumption) (fun k' t' I' oI' C' oC' D' m' ys' h' tk' E' hC' hx' F' N' off' ne' => ?_) (fun k' t' I' oI' C' oC' D' m' ys' h' tk' E' hC' hx' F' N' off' ne' => ?_) ?_))))
local macro_rules | `(tactic| walk_at "CompEnd") => `(tactic| (k_here; (refine' LCg.CompEnd.intro ?F ?N _ ?sub ?off ?S ⟨rfl, rfl⟩; (case F => k_asm); (case N => k_asm); (case sub => exact fun _ hp => hp); (case off => assumption); (case S => exact .inr ⟨_, by k_mem, rfl, _, rfl⟩))))
local macro_rules | `(tactic| walk_at "compareOp NotEq ref ref") => `(tactic| (k_here; (with_reducible show wpAny _ _ (compareOp CmpOp.NotEq (Value.ref _) (Value.ref _)) _ _ _); k_dflt (refine' ne_same (vs := List.map tyOf _) ?N ?a ?b ?e ?u ?_; (case N => k_asm); (case a => k_mem); (case b => k_mem); (case e => exact ty_refl _); (case u => ke_room); k_whole)))

section
variable {w : World} {s : Shared} {mean : ExcName → Option Value} {mg mb : Str → Option Value} {loose : List Str}

theorem law_turn2 {Q : Flow → Shared → Prop} {I1 l2 I2 L : Addr} {o1 o2 o3 : Obj} {tp tV : Tok} {p V : Str} {u : Str → Option Value} {h₀ : Heap} {fa : Addr} {cd : Value}
    (lo1 : Str.ofString "ValueError" ∉ loose) (lo2 : Str.ofString "ValueError" ∉ (clssOf hd.view_39 loose).map (·.name))
    (X : (hd.heap_39 w.params).In h₀) (T : Top hd.view_39 loose mean mg mb h₀)
    (F : Fr h₀ L s.heap (fun y => if y = Str.ofString "part" then some (.str p tp) else if y = Str.ofString "version" then some (.str V tV) else u y))
    (N : News h₀ L s.heap [(I2, o3), (l2, o2), (I1, o1)]) (hp : p.cps.size ≤ 400) (hok : ∀ c ∈ p.cps.toList, okC c = true)
    (hlen : (toldOf p.cps.toList).length ≤ 1000) (hfl : ∀ d ∈ toldOf p.cps.toList, flatD d)
    (hQ : ∀ h' tk (u' : Str → Option Value), Fr h₀ L h' (fun y => if y = Str.ofString "version" then some (.str V tV) else u' y) → News h₀ L h' [(I2, o3), (l2, o2), (I1, o1)] → Q .next { s with heap := h', toks := tk }) :
    ∀ o, (hd.heap_39 w.params).lookup 63 = some o →
    wpC (model PySem.Challenge.rw_dz0075_01.row.prog w) (callerA.deeper (envOf (Str.ofString "law") (funScope o) L fa cd)) (execs (match funBody o with | _ :: _ :: _ :: .For _ _ (.For _ _ b _ _ :: _) _ _ :: _ => b | _ => []) (envOf (Str.ofString "law") (funScope o) L fa cd)) Q (fun _ _ => False) s := by
  have hkq : ∀ d ∈ toldOf p.cps.toList, kqdOk 8 d = true := fun d hd => flat_ok (hfl d hd)
  revert X
  k_fill
  intro X
  refine' elimO ?hk ?_
  case hk => k_is
  dsimp only [funBody, funScope]
  obtain ⟨hp0, gs, dr, tk, os⟩ := s
  dsimp only at F N ⊢
  refine wpC_execs_cons (wpC_Assign_Name (wpC_Call_Name ?_))
  k_steps
  refine callWith_C .frame (.inl rfl) ?_
  k_steps
  have X' := X.keeps F.keep
  refine ⟨(Looks.ld (part := none) (X' 44 _ (by k_is))).andThen .now, ?_⟩
  refine cv_call lo1 lo2 X T F rfl hp (fun q hq => ?_) fun h' tk' b vs n F' keep hb hbn hD => ?_
  · have := splitF_pieces p.cps.size p.cps.toList (by simp) hok q hq
    exact ⟨this.1, Nat.le_trans this.2 (by rw [Array.length_toList]; exact hp)⟩
  have hpl := law_plain p.cps.toList hok
  rw [Array.length_toList] at hpl
  rw [hpl] at hD
  have hbL : b ≠ L := by
    rintro rfl
    obtain ⟨o, _, _, e, _⟩ := F.ns
    rw [hbn] at e
    cases e
  have hb0 : h₀.get? b = none := by
    cases e : h₀.get? b with
    | none => rfl
    | some o => have := F.keep b o e; rw [hbn] at this; cases this
  have N' : News h₀ L h' [(b, W.listOf vs.toArray n), (I2, o3), (l2, o2), (I1, o1)] := by
    intro q hq
    rcases List.mem_cons.mp hq with rfl | hq
    · exact ⟨hb, hbL, hb0⟩
    · exact ⟨keep _ _ (N q hq).2.1 (N q hq).1, (N q hq).2⟩
  clear keep hb hbn hbL hb0 N F X' hpl
  have hvl := hD.length
  refine stN F' N' fun h₂ F₂ N₂ => ?_
  clear F' N'
  show wpC _ _ (execs [_, _] _) _ _ _
  refine wpC_of ?_
  k_steps
  rename News _ _ _ _ => N₃
  rename Fr _ _ _ _ => F₃
  refine hQ _ _ _ (Fr.normV F₃ rfl) fun q hq => N₃ q ?_
  simp only [List.mem_cons, List.not_mem_nil, or_false] at hq ⊢
  exact .inr (.inr (.inr (.inr hq)))
end
end Mine
end

section
open PySem PySem.W PyProof.Rows PySem.Calls PySem.NumText
set_option maxRecDepth 100000
set_option maxHeartbeats 8000000
namespace Mine
theorem calm_L4 : True := by
  w_top off
  trivial

theorem pieceD_flat {p : List Nat} (hP : Piece p) : ∀ d ∈ pieceD p, flatD d := by
  intro d hd
  rcases hP with rfl | ⟨c, hc, rfl⟩ | ⟨hne, hall⟩ | ⟨hne, hall⟩
  · cases hd
  · rw [pieceD_sep hc] at hd; cases hd
  · cases p with
    | nil => exact absurd rfl hne
    | cons c r =>
      have hc := hall c (by simp)
      rw [pieceD_dig (dig_not hc) hc] at hd
      simp only [List.mem_cons, List.not_mem_nil, or_false] at hd
      rcases hd with rfl | rfl <;> exact .inl ⟨_, rfl⟩
  · cases p with
    | nil => exact absurd rfl hne
    | cons c r =>
      have hc := let_not (hall c (by simp))
      rw [pieceD_let hc.1 hc.2] at hd
      simp only [List.mem_cons, List.not_mem_nil, or_false] at hd
      rcases hd with rfl | rfl
      · exact .inl ⟨_, rfl⟩
      · refine .inr ⟨_, rfl, ?_⟩
        unfold PyData.strOk
        rw [← Array.all_toList, List.all_eq_true]
        intro d hd
        have := (let_lt (hall d hd)).1
        simp; omega
theorem told_flat {l : List Nat} (hok : ∀ c ∈ l, okC c = true) : ∀ d ∈ toldOf l, flatD d := by
  rw [← law_plain l hok]
  intro d hd
  obtain ⟨p, hp, hd⟩ := List.mem_flatMap.mp hd
  exact pieceD_flat (splitF_pieces l.length l (Nat.le_refl _) hok p hp).1 d hd
theorem flatMap_len {α β : Type} {f : α → List β} {k : Nat} (h : ∀ a, (f a).length ≤ k) : ∀ l : List α, (l.flatMap f).length ≤ k * l.length
  | [] => by simp
  | a :: l => by
    have h1 := h a
    have h2 := flatMap_len h l
    rw [List.flatMap_cons, List.length_append, List.length_cons, Nat.mul_succ]
    omega
theorem told_len {l : List Nat} (hok : ∀ c ∈ l, okC c = true) : (toldOf l).length ≤ 4 * l.length + 2 := by
  rw [← law_plain l hok]
  have h1 := flatMap_len (f := pieceD) (k := 2) pieceD_len (splitF l.length l)
  have h2 := splitF_length l.length l
  omega

section
variable {w : World} {s : Shared} {mean : ExcName → Option Value} {mg mb : Str → Option Value} {loose : List Str}

theorem law_turn1' {A : Around} {Q : Flow → Shared → Prop} {P I l L : Addr} {n : Nat} {oI ol : Obj} {tv : Tok} {x : Int} {u : Str → Option Value} {h₀ : Heap} {rs : List Value} {fa : Addr} {cd : Value} {o : Obj} {body : List Stmt} {scope : Scope}
    (X : (hd.heap_39 w.params).In h₀) (T : Top hd.view_39 loose mean mg mb h₀)
    (F : Fr h₀ L s.heap (fun y => if y = Str.ofString "number" then some (.int x tv) else if y = Str.ofString "pieces" then some (.ref P) else u y))
    (N : News h₀ L s.heap [(P, W.listOf rs.toArray n), (I, oI), (l, ol)]) (n1 : @Ne Nat P I) (n2 : @Ne Nat P l) (hlen : rs.length ≤ 2000)
    (ho : (hd.heap_39 w.params).lookup 63 = some o) (e1 : body = (match funBody o with | _ :: .For _ _ b _ _ :: _ => b | _ => [])) (e2 : scope = funScope o)
    (hQ : ∀ h' tk (u' : Str → Option Value) n' y t, Fr h₀ L h' (fun y => if y = Str.ofString "pieces" then some (.ref P) else u' y) → News h₀ L h' [(P, W.listOf (rs ++ [Value.str y t]).toArray n'), (I, oI), (l, ol)] → okP y = true →
      Q .next { s with heap := h', toks := tk }) :
    wpAny (model PySem.Challenge.rw_dz0075_01.row.prog w) (A.deeper (envOf (Str.ofString "law") scope L fa cd)) (execs body (envOf (Str.ofString "law") scope L fa cd)) Q (fun _ _ => False) s := by
  subst e1 e2
  exact law_turn1 X T F N n1 n2 hlen hQ o ho

theorem law_turn2' {Q : Flow → Shared → Prop} {I1 l2 I2 L : Addr} {o1 o2 o3 : Obj} {tp tV : Tok} {p V : Str} {u : Str → Option Value} {h₀ : Heap} {fa : Addr} {cd : Value} {o : Obj} {body : List Stmt} {scope : Scope}
    (lo1 : Str.ofString "ValueError" ∉ loose) (lo2 : Str.ofString "ValueError" ∉ (clssOf hd.view_39 loose).map (·.name))
    (X : (hd.heap_39 w.params).In h₀) (T : Top hd.view_39 loose mean mg mb h₀)
    (F : Fr h₀ L s.heap (fun y => if y = Str.ofString "part" then some (.str p tp) else if y = Str.ofString "version" then some (.str V tV) else u y))
    (N : News h₀ L s.heap [(I2, o3), (l2, o2), (I1, o1)]) (hp : p.cps.size ≤ 200) (hok : ∀ c ∈ p.cps.toList, okC c = true)
    (ho : (hd.heap_39 w.params).lookup 63 = some o) (e1 : body = (match funBody o with | _ :: _ :: _ :: .For _ _ (.For _ _ b _ _ :: _) _ _ :: _ => b | _ => [])) (e2 : scope = funScope o)
    (hQ : ∀ h' tk (u' : Str → Option Value), Fr h₀ L h' (fun y => if y = Str.ofString "version" then some (.str V tV) else u' y) → News h₀ L h' [(I2, o3), (l2, o2), (I1, o1)] → Q .next { s with heap := h', toks := tk }) :
    wpC (model PySem.Challenge.rw_dz0075_01.row.prog w) (callerA.deeper (envOf (Str.ofString "law") scope L fa cd)) (execs body (envOf (Str.ofString "law") scope L fa cd)) Q (fun _ _ => False) s := by
  subst e1 e2
  refine law_turn2 lo1 lo2 X T F N (by omega) hok ?_ (told_flat hok) hQ o ho
  have := told_len hok
  have e : p.cps.toList.length = p.cps.size := Array.length_toList
  omega
end

theorem join_cons (y : Str) (ys : List Str) : (Str.join (Str.ofString "") (y :: ys)).cps.toList = y.cps.toList ++ (Str.join (Str.ofString "") ys).cps.toList := by
  cases ys with
  | nil =>
    show y.cps.toList = y.cps.toList ++ []
    simp
  | cons z r =>
    show (y ++ Str.ofString "" ++ Str.join (Str.ofString "") (z :: r)).cps.toList = _
    rw [Str.cps_append, Str.cps_append, Array.toList_append, Array.toList_append]
    have : (Str.ofString "").cps.toList = [] := by decide +kernel
    rw [this, List.append_nil]
theorem join_facts : ∀ (ys : List Str), (∀ y ∈ ys, okP y = true) → (∀ c ∈ (Str.join (Str.ofString "") ys).cps.toList, okC c = true) ∧ (Str.join (Str.ofString "") ys).cps.toList.length ≤ 5 * ys.length
  | [], _ => And.intro (fun c hc => absurd hc List.not_mem_nil) (Nat.le_refl _)
  | y :: ys, h => by
    obtain ⟨h1, h2⟩ := join_facts ys fun z hz => h z (List.mem_cons_of_mem _ hz)
    have hy := h y (List.mem_cons_self ..)
    unfold okP at hy
    rw [Bool.and_eq_true, List.all_eq_true, decide_eq_true_eq] at hy
    rw [join_cons]
    refine ⟨fun c hc => ?_, ?_⟩
    · rcases List.mem_append.mp hc with hc | hc
      · exact hy.1 c hc
      · exact h1 c hc
    · have e : y.cps.toList.length = y.length := Array.length_toList
      rw [List.length_append, List.length_cons]
      omega
theorem sum_facts : ∀ (ys : List Str), (∀ y ∈ ys, okP y = true) → (ys.map (·.length)).sum ≤ 5 * ys.length
  | [], _ => Nat.le_refl _
  | y :: ys, h => by
    have h2 := sum_facts ys fun z hz => h z (List.mem_cons_of_mem _ hz)
    have hy := h y (List.mem_cons_self ..)
    unfold okP at hy
    rw [Bool.and_eq_true, decide_eq_true_eq] at hy
    rw [List.map_cons, List.sum_cons, List.length_cons]
    omega

section
variable {prog : Program} {w : World} {A : Around} {E : Value → Shared → Prop} {s : Shared} {h₀ : Heap} {L P : Addr} {news : List (Addr × Obj)} {rs : List Value} {n : Nat} {ys : List Str} {t : Tok}
theorem join_K {Q : Value → Shared → Prop} (N : News h₀ L s.heap news) (hm : (P, W.listOf rs.toArray n) ∈ news) (hS : StrsAre rs ys) (hok : ∀ y ∈ ys, okP y = true) (hl : ys.length ≤ 10)
    (h : ∀ V t' k, V.length ≤ 50 → (∀ c ∈ V.cps.toList, okC c = true) → Q (.str V t') { s with toks := k }) :
    wpAny (model prog w) A (call (.builtin "str.join") [.str (Str.ofString "") t, .ref P]) Q E s := by
  have h1 := join_facts ys hok
  have h2 := sum_facts ys hok
  have ej : Txt.join (Str.ofString "") ys = Str.join (Str.ofString "") ys := StrLaws.glued_eq_join _ _
  refine join_listW (ys := ys) (isList_N N hm) hS (by decide +kernel) (by omega) fun t' k => ?_
  rw [ej]
  refine h _ t' k ?_ h1.1
  have e : (Str.join (Str.ofString "") ys).cps.toList.length = (Str.join (Str.ofString "") ys).length := Array.length_toList
  have h3 := h1.2
  omega
end
end Mine
end

section
open PySem PySem.W PyProof.Rows PySem.Calls
set_option maxRecDepth 100000
set_option maxHeartbeats 8000000
namespace Mine
theorem calm_L6 : True := by
  w_top off
  trivial
theorem mem_slice {V : Str} {l u : Option Int} {c : Nat} (h : c ∈ (Txt.slice V l u).cps.toList) : c ∈ V.cps.toList := by
  unfold Txt.slice at h
  split at h
  · exact h
  · have h' : c ∈ List.filterMap (fun i => V.cps[i]?) (Builtin.Str.strSliceIndices l u 1 V.length) := h
    obtain ⟨i, _, e⟩ := List.mem_filterMap.mp h'
    rw [Array.mem_toList_iff]
    exact Array.mem_of_getElem? e

section
variable {w : World} {s : Shared} {mean : ExcName → Option Value} {mg mb : Str → Option Value} {loose : List Str}

theorem law_inner {Q : Flow → Shared → Prop} {I1 L : Addr} {o1 : Obj} {tk tV : Tok} {k : Nat} {V : Str} {u : Str → Option Value} {h₀ : Heap} {fa : Addr} {cd : Value}
    (lo1 : Str.ofString "ValueError" ∉ loose) (lo2 : Str.ofString "ValueError" ∉ (clssOf hd.view_39 loose).map (·.name))
    (X : (hd.heap_39 w.params).In h₀) (T : Top hd.view_39 loose mean mg mb h₀)
    (F : Fr h₀ L s.heap (fun y => if y = Str.ofString "k" then some (.int (k : Int) tk) else if y = Str.ofString "version" then some (.str V tV) else u y))
    (N : News h₀ L s.heap [(I1, o1)]) (hV : V.length ≤ 100) (hok : ∀ c ∈ V.cps.toList, okC c = true)
    (hQ : ∀ h' tk (u' : Str → Option Value), Fr h₀ L h' (fun y => if y = Str.ofString "version" then some (.str V tV) else u' y) → News h₀ L h' [(I1, o1)] → Q .next { s with heap := h', toks := tk }) :
    ∀ o, (hd.heap_39 w.params).lookup 63 = some o →
    wpC (model PySem.Challenge.rw_dz0075_01.row.prog w) (callerA.deeper (envOf (Str.ofString "law") (funScope o) L fa cd)) (execs (match funBody o with | _ :: _ :: _ :: .For _ _ b _ _ :: _ => b | _ => []) (envOf (Str.ofString "law") (funScope o) L fa cd)) Q (fun _ _ => False) s := by
  revert X
  k_fill
  intro X
  refine' elimO ?hk ?_
  case hk => k_is
  dsimp only [funBody, funScope]
  obtain ⟨hp0, gs, dr, tk0, os⟩ := s
  dsimp only at F N ⊢
  refine wpC_execs_cons (wpC_For ?_)
  k_steps
  show wpAny _ _ (pyIter _) _ _ _
  rename Fr _ _ _ _ => F'
  rename News _ _ _ _ => N'
  rename_i z1 t1 z3 ha1 z5 t2 z7 ha2 l2 hC hl1
  have hl1' : @LT.lt Nat _ I1 l2 := hl1
  have hl2 : @LT.lt Nat _ l2 hC.objs.size := Heap.lt_size (N' (l2, _) (List.mem_cons_self ..)).1
  have hLI : L < hC.objs.size := F'.ns.lt
  have hIn : h₀.get? hC.objs.size = none := Heap.get?_none_of_le (Nat.le_trans F'.above (Nat.le_of_lt hLI))
  have p1 : ∀ c ∈ (Txt.slice V (some (k : Int)) none).cps.toList, okC c = true := fun c hc => hok c (mem_slice hc)
  have p2 : ∀ c ∈ (Txt.slice V none (some (k : Int))).cps.toList, okC c = true := fun c hc => hok c (mem_slice hc)
  generalize Txt.slice V (some (k : Int)) none = x1 at *
  generalize Txt.slice V none (some (k : Int)) = x2 at *
  refine wpAny_pyIter_list (items := #[Value.str x1 t1, Value.str x2 t2]) ⟨_, (N' (l2, _) (List.mem_cons_self ..)).1, rfl, 0, rfl⟩ ?_
  dsimp only
  generalize hgI : hC.objs.size = I at *
  have q1 : @Ne Nat l2 I := Nat.ne_of_lt hl2
  have q2 : @Ne Nat I1 I := Nat.ne_of_lt (Nat.lt_trans hl1' hl2)
  refine ⟨I, [I, l2], [I], 2, (fun i v => #[Value.str x1 t1, Value.str x2 t2][i]? = some v), (fun i h => h.IsListIter I l2 i ∧ h.IsList l2 #[Value.str x1 t1, Value.str x2 t2]),
    (fun i s₃ => ∃ (hh : Heap) (tk : Nat) (u : Str → Option Value), s₃ = { heap := hh, gens := gs, drawn := dr, toks := tk, os := os } ∧ Fr h₀ L hh (fun y => if y = Str.ofString "version" then some (.str V tV) else u y) ∧
      News h₀ L hh [(l2, W.listOf #[Value.str x1 t1, Value.str x2 t2] 0), (I1, o1)]),
    rfl, Walks.list rfl I l2 q1 #[Value.str x1 t1, Value.str x2 t2], ⟨⟨_, by rw [← hgI]; exact Heap.get?_push_size _ rfl, rfl, rfl⟩, ?_⟩, ?_, ?_, ?_⟩
  · exact ⟨_, Heap.get?_push_of_some _ (N' (l2, _) (List.mem_cons_self ..)).1, rfl, 0, rfl⟩
  · exact ⟨_, _, _, rfl, Fr.normV (F'.push _) rfl, fun p hp => ⟨Heap.get?_push_of_some _ (N' p hp).1, (N' p hp).2⟩⟩
  · rintro i s₃ v h₁ tk hi hst ⟨hh', tk', u, rfl, F₁, N₁⟩ hv ⟨⟨oI, hoI, hI1, hI3⟩, hst2⟩ hk
    have hcase : ∃ p t, v = Value.str p t ∧ p.length ≤ V.length ∧ ∀ c ∈ p.cps.toList, okC c = true := by
      have : i = 0 ∨ i = 1 := by omega
      rcases this with rfl | rfl
      · exact ⟨x1, t1, (Option.some.inj hv).symm, ha1, p1⟩
      · exact ⟨x2, t2, (Option.some.inj hv).symm, ha2, p2⟩
    obtain ⟨p, t, rfl, hpl, hpo⟩ := hcase
    have F₂ := Fr.but F₁ hk (Nat.ne_of_lt hLI) hIn
    have N₂ := News.but N₁ hk (by
      intro q hq
      simp only [List.mem_cons, List.not_mem_nil, or_false] at hq
      rcases hq with rfl | rfl
      · exact q1
      · exact q2)
    have N₃ : News h₀ L h₁ [(I, oI), (l2, W.listOf #[Value.str x1 t1, Value.str x2 t2] 0), (I1, o1)] := by
      intro q hq
      rcases List.mem_cons.mp hq with rfl | hq
      · exact ⟨hoI, Ne.symm (Nat.ne_of_lt hLI), hIn⟩
      · exact N₂ q hq
    refine stN F₂ N₃ (fun h₂ F₃ N₄ => ?_)
    refine' law_turn2' lo1 lo2 X T F₃ N₄ ?hs hpo ?ho ?e1 ?e2 ?_
    case hs =>
      have : p.cps.size = p.length := rfl
      omega
    case ho => k_is
    case e1 => rfl
    case e2 => rfl
    intro h' tk₂ u' F₄ N₅
    refine ⟨⟨⟨oI, (N₅ (I, oI) (List.mem_cons_self ..)).1, hI1, hI3⟩, ⟨_, (N₅ (l2, _) (List.mem_cons_of_mem _ (List.mem_cons_self ..))).1, rfl, 0, rfl⟩⟩, h', tk₂, u', rfl, F₄, fun q hq => N₅ q (List.mem_cons_of_mem _ hq)⟩
  · rintro s₃ h₂ tk hst ⟨hh', tk', u, rfl, F₁, N₁⟩ hk
    have F₂ := Fr.but F₁ hk (Nat.ne_of_lt hLI) hIn
    have N₂ := News.but N₁ hk (by
      intro q hq
      simp only [List.mem_cons, List.not_mem_nil, or_false] at hq
      rcases hq with rfl | rfl
      · exact q1
      · exact q2)
    refine wpC_execs_nil ?_
    exact hQ h₂ tk u F₂ fun q hq => N₂ q (List.mem_cons_of_mem _ hq)

theorem law_inner' {Q : Flow → Shared → Prop} {I1 L : Addr} {o1 : Obj} {tk tV : Tok} {k : Nat} {V : Str} {u : Str → Option Value} {h₀ : Heap} {fa : Addr} {cd : Value} {o : Obj} {body : List Stmt} {scope : Scope}
    (lo1 : Str.ofString "ValueError" ∉ loose) (lo2 : Str.ofString "ValueError" ∉ (clssOf hd.view_39 loose).map (·.name))
    (X : (hd.heap_39 w.params).In h₀) (T : Top hd.view_39 loose mean mg mb h₀)
    (F : Fr h₀ L s.heap (fun y => if y = Str.ofString "k" then some (.int (k : Int) tk) else if y = Str.ofString "version" then some (.str V tV) else u y))
    (N : News h₀ L s.heap [(I1, o1)]) (hV : V.length ≤ 100) (hok : ∀ c ∈ V.cps.toList, okC c = true)
    (ho : (hd.heap_39 w.params).lookup 63 = some o) (e1 : body = (match funBody o with | _ :: _ :: _ :: .For _ _ b _ _ :: _ => b | _ => [])) (e2 : scope = funScope o)
    (hQ : ∀ h' tk (u' : Str → Option Value), Fr h₀ L h' (fun y => if y = Str.ofString "version" then some (.str V tV) else u' y) → News h₀ L h' [(I1, o1)] → Q .next { s with heap := h', toks := tk }) :
    wpC (model PySem.Challenge.rw_dz0075_01.row.prog w) (callerA.deeper (envOf (Str.ofString "law") scope L fa cd)) (execs body (envOf (Str.ofString "law") scope L fa cd)) Q (fun _ _ => False) s := by
  subst e1 e2
  exact law_inner lo1 lo2 X T F N hV hok hQ o ho

theorem law_part2 {Q : Flow → Shared → Prop} {L : Addr} {tV : Tok} {V : Str} {u : Str → Option Value} {h₀ : Heap} {fa : Addr} {cd : Value}
    (lo1 : Str.ofString "ValueError" ∉ loose) (lo2 : Str.ofString "ValueError" ∉ (clssOf hd.view_39 loose).map (·.name))
    (X : (hd.heap_39 w.params).In h₀) (T : Top hd.view_39 loose mean mg mb h₀)
    (F : Fr h₀ L s.heap (fun y => if y = Str.ofString "version" then some (.str V tV) else u y))
    (hV : V.length ≤ 100) (hok : ∀ c ∈ V.cps.toList, okC c = true)
    (hQ : ∀ h' tk, (∀ b o, h₀.get? b = some o → h'.get? b = some o) → Q (.ret (.bool true)) { s with heap := h', toks := tk }) :
    ∀ o, (hd.heap_39 w.params).lookup 63 = some o →
    wpC (model PySem.Challenge.rw_dz0075_01.row.prog w) (callerA.deeper (envOf (Str.ofString "law") (funScope o) L fa cd)) (execs ((funBody o).drop 3) (envOf (Str.ofString "law") (funScope o) L fa cd)) Q (fun _ _ => False) s := by
  have N : News h₀ L s.heap [] := News.nil
  revert X
  k_fill
  intro X
  refine' elimO ?hk ?_
  case hk => k_is
  dsimp only [funBody, funScope, List.drop]
  obtain ⟨hp0, gs, dr, tk, os⟩ := s
  dsimp only at F N ⊢
  refine wpC_execs_cons (wpC_For ?_)
  k_steps
  show wpAny _ _ (pyIter _) _ _ _
  rename IsRange _ _ _ _ _ _ _ _ => hR
  rename Fr _ _ _ _ => F'
  rename_i hC z2 z3 z4 z5 z7 z8
  have hLI : L < hC.objs.size := F'.ns.lt
  have hIn : h₀.get? hC.objs.size = none := Heap.get?_none_of_le (Nat.le_trans F'.above (Nat.le_of_lt hLI))
  refine wpAny_pyIter_range hR (small_one (by omega) (by omega) (by omega) (by omega)) ?_
  dsimp only
  generalize hgI : hC.objs.size = I at *
  refine ⟨I, [I], [I], V.length + 1, (fun i v => ∃ t, v = .int (0 + (i : Int)) t), (fun i h => IsRangeIter h I (0 + (i : Nat) * 1) (((V.length + 1 : Nat) : Int) - (i : Nat)) 1),
    (fun i s₃ => ∃ (hh : Heap) (tk : Nat) (u : Str → Option Value), s₃ = { heap := hh, gens := gs, drawn := dr, toks := tk, os := os } ∧ Fr h₀ L hh (fun y => if y = Str.ofString "version" then some (.str V tV) else u y)),
    rfl, LCg.range_walks rfl 0 (V.length + 1), ?_, ?_, ?_, ?_⟩
  · have e : Builtin.Range.rangeSize 0 ((V.length : Int) + 1) 1 = ((V.length + 1 : Nat) : Int) := by rw [rangeSize_nat]; omega
    rw [e, ← hgI]
    simpa using Heap.get?_push_size _ rfl
  · exact ⟨_, _, _, rfl, Fr.normV (F'.push _) rfl⟩
  · rintro i s₃ v h₁ tk hi hst ⟨hh', tk', u, rfl, F₁⟩ ⟨t, rfl⟩ hst1 hk
    have F₂ := Fr.but F₁ hk (Nat.ne_of_lt hLI) hIn
    obtain ⟨oI, hoI⟩ : ∃ oI, oI = ({ cls := .type "range_iterator", dict := none, data := .fields #[rawInt (0 + ((i + 1 : Nat) : Int) * 1), rawInt (((V.length + 1 : Nat) : Int) - ((i + 1 : Nat) : Int)), rawInt 1], slots := #[] } : Obj) := ⟨_, rfl⟩
    have N₂ : News h₀ L h₁ [(I, oI)] := by
      intro q hq
      rw [List.mem_singleton.mp hq]
      exact ⟨by rw [hoI]; exact hst1, Ne.symm (Nat.ne_of_lt hLI), hIn⟩
    rw [Int.zero_add]
    refine stN F₂ N₂ (fun h₂ F₃ N₃ => ?_)
    refine' law_inner' lo1 lo2 X T F₃ N₃ hV hok ?ho ?e1 ?e2 ?_
    case ho => k_is
    case e1 => rfl
    case e2 => rfl
    intro h' tk₂ u' F₄ N₄
    exact ⟨by have := (N₄ (I, oI) (List.mem_cons_self ..)).1; rw [hoI] at this; exact this, h', tk₂, u', rfl, F₄⟩
  · rintro s₃ h₂ tk hst ⟨hh', tk', u, rfl, F₁⟩ hk
    have F₂ := Fr.but F₁ hk (Nat.ne_of_lt hLI) hIn
    have N₂ : News h₀ L h₂ [] := News.nil
    refine wpC_of ?_
    clear F₁ hk
    show wpAny _ _ (execs [_] _) _ _ _
    k_steps
    exact hQ _ _ F₂.keep

theorem law_part2' {Q : Flow → Shared → Prop} {L : Addr} {tV : Tok} {V : Str} {u : Str → Option Value} {h₀ : Heap} {fa : Addr} {cd : Value} {o : Obj} {body : List Stmt} {scope : Scope}
    (lo1 : Str.ofString "ValueError" ∉ loose) (lo2 : Str.ofString "ValueError" ∉ (clssOf hd.view_39 loose).map (·.name))
    (X : (hd.heap_39 w.params).In h₀) (T : Top hd.view_39 loose mean mg mb h₀)
    (F : Fr h₀ L s.heap (fun y => if y = Str.ofString "version" then some (.str V tV) else u y))
    (hV : V.length ≤ 100) (hok : ∀ c ∈ V.cps.toList, okC c = true)
    (ho : (hd.heap_39 w.params).lookup 63 = some o) (e1 : body = (funBody o).drop 3) (e2 : scope = funScope o)
    (hQ : ∀ h' tk, (∀ b o, h₀.get? b = some o → h'.get? b = some o) → Q (.ret (.bool true)) { s with heap := h', toks := tk }) :
    wpC (model PySem.Challenge.rw_dz0075_01.row.prog w) (callerA.deeper (envOf (Str.ofString "law") scope L fa cd)) (execs body (envOf (Str.ofString "law") scope L fa cd)) Q (fun _ _ => False) s := by
  subst e1 e2
  exact law_part2 lo1 lo2 X T F hV hok hQ o ho
end
end Mine
end

section
open PySem PySem.W PyProof.Rows PySem.Calls
set_option maxRecDepth 100000
set_option maxHeartbeats 8000000
namespace Mine
theorem calm_L5 : True := by
  w_top off
  trivial
section
variable {prog : Program} {w : World} {A : Around} {s : Shared}
theorem call_docC {R : Result → Shared → Prop} {name : Str} {params : Arguments} {body : List Stmt} {scope : Scope} {pm doc cdv : Value} {f : Addr} {o : Obj} {args : Args} {binds : List (Str × Value)}
    (hroom : A.depth < recursionLimit) (ho : s.heap.get? f = some o) (hdat : o.data = .func (docDef name params body scope pm cdv doc)) (hcd : s.heap.CodeRec cdv name) (hlim : s.heap.NoLimit)
    (hbind : BindsTo s (docDef name params body scope pm cdv doc) args binds) (hloc : ∀ x ∈ binds, scope.names.lookup x.1 = some .local)
    (h : ∀ h₁, Fr s.heap s.heap.objs.size h₁ (fun x => binds.reverse.lookup x) → wpC (model prog w) (A.deeper (envOf name scope s.heap.objs.size f cdv)) (execs body (envOf name scope s.heap.objs.size f cdv))
      (fun fl s' => R (.ok (.ret (match fl with | .ret v => v | _ => .none))) s') (fun _ _ => False) { s with heap := h₁, toks := s.toks + binds.length })
    (hco : scope.isCoroutine = false := by rfl) (hgen : scope.isGenerator = false := by rfl) (hk : scope.kind = .function := by rfl) (hcell : ∀ x ∈ scope.names, x.2 ≠ .cell := by decide) : codeC (model prog w) A (.call (.ref f) args) R s :=
  codeC_call_def (fd := docDef name params body scope pm cdv doc) (body := body) (binds := binds) hroom ho hdat hlim hcd rfl hbind hcell hloc (fun h₁ hns hk₁ => h h₁ ⟨hns, hk₁, Nat.le_refl _⟩) hco hgen hk
end
local macro_rules | `(tactic| walk_at "call builtin:str.join") => `(tactic| (k_here; k_dflt (refine' join_K ?N ?m ?s ?k ?l ?_; (case N => k_asm); (case m => k_mem); (case s => assumption); (case k => assumption); (case l => assumption); k_whole); intro V' t' k' hVl' hVo'))
theorem law_walk : PySem.Challenge.rw_dz0075_01.Holds := by
  refine Mine.hd ?_
  k_fill
  intro w s₀ s₁ mg mb G Y fa o pm cd doc dV kV ho hdt hcd hD hmg hg args vals as hpre hlay hrd hwl hlo
  have KX := kIn_of Y
  refine Ground.open G ?_
  intro T B D TE TW
  clear hmg
  wrow_args hpre hlay hrd hwl hlo
  rename IntsAre _ _ => hI
  rename Heap.IsList _ _ _ => hS
  rename_i ns a1 a2 a3 a4 a5 a6 a7 S vs a8 a9 a10 a11 a12 hns a13
  have GT : ∀ s' : Shared, (∀ b o, s₁.heap.get? b = some o → s'.heap.get? b = some o) → s'.os = s₁.os → s'.gens = #[] → GoodWG PySem.Challenge.rw_dz0075_01.row.claim (classAt s₀.heap) (ExcName.means s₀.heap) [ofPy (PyData.list (List.map PyData.int ns))] s₁ (Except.ok (Flow.ret (Value.bool true))) s' := by
    intro s' hk hos hgs
    refine ⟨.inl ⟨_, .bool true, [], rfl, raisesW_false (by wrow_none_raised), .bool true, ?_, unshared_nil⟩, .of_keep hk, hos, .of_eq hgs⟩
    exact postW_of (by wrow_shape) (by wtm_val) (by str_meet; first | done | w_fin)
  refine ⟨GT _ (fun _ _ e => e) rfl hg, ?_⟩
  have he := Dflts.none hD rfl
  subst he
  have he := Dflts.noKw hD
  subst he
  clear B D TE TW a1 a2 a3 a4 a5 a9 a10 a11 a12 a13 G Y hD
  refine wpC_call ?_
  refine' call_docC (name := Str.ofString "law") (by decide) ho hdt hcd T.nolimit (BindsTo.of_eq rfl) (locs rfl) ?_ rfl rfl rfl ?hcell
  case hcell => dsimp only [docDef]; decide
  intro h₀ F
  dsimp only [docDef] at F ⊢
  have N : News s₁.heap s₁.heap.objs.size h₀ [] := News.nil
  refine execs_cutC (l1 := [_]) (l2 := [_, _, _, _]) ?_
  k_fold
  k_steps
  show wpC _ _ (execs [_, _, _, _] _) _ _ _
  refine wpC_execs_cons (wpC_For ?_)
  k_fold
  k_steps
  show wpAny _ _ (pyIter _) _ _ _
  rename Fr _ _ _ _ => F'
  rename News _ _ _ _ => N'
  rename IntsAre _ (List.take _ _) => hI2
  rename_i z1 z2 z3 P z5 z6 z7 DD ws hC z9 z10 hPD
  have hDlt : @LT.lt Nat _ DD hC.objs.size := Heap.lt_size (N' (DD, W.listOf ws.toArray 0) (by k_mem)).1
  have hLI : s₁.heap.objs.size < hC.objs.size := F'.ns.lt
  have hIn : s₁.heap.get? hC.objs.size = none := Heap.get?_none_of_le (Nat.le_of_lt hLI)
  have hPD' : @LT.lt Nat _ P DD := hPD
  have hwl : ws.length ≤ 10 := by
    have := hI2.length
    omega
  refine wpAny_pyIter_list (isList_N N' (by k_mem)) ?_
  dsimp only
  generalize hgI : hC.objs.size = I at *
  have q1 : @Ne Nat P I := Nat.ne_of_lt (Nat.lt_trans hPD' hDlt)
  have q2 : @Ne Nat P DD := Nat.ne_of_lt hPD'
  have q3 : @Ne Nat DD I := Nat.ne_of_lt hDlt
  refine ⟨I, [I, DD], [I], ws.toArray.size, (fun i v => ws.toArray[i]? = some v), (fun i h => h.IsListIter I DD i ∧ h.IsList DD ws.toArray),
    (fun i s₃ => ∃ (hh : Heap) (tk : Nat) (rs : List Value) (n : Nat) (u : Str → Option Value) (ys : List Str), s₃ = { s₁ with heap := hh, toks := tk } ∧ Fr s₁.heap s₁.heap.objs.size hh (fun y => if y = Str.ofString "pieces" then some (.ref P) else u y) ∧
      News s₁.heap s₁.heap.objs.size hh [(P, W.listOf rs.toArray n), (DD, W.listOf ws.toArray 0)] ∧ StrsAre rs ys ∧ (∀ y ∈ ys, okP y = true) ∧ rs.length = i),
    rfl, Walks.list rfl I DD q3 _, ⟨⟨_, by rw [← hgI]; exact Heap.get?_push_size _ rfl, rfl, rfl⟩, ?_⟩, ?_, ?_, ?_⟩
  · exact ⟨_, Heap.get?_push_of_some _ (N' (DD, W.listOf ws.toArray 0) (by k_mem)).1, rfl, 0, rfl⟩
  · refine ⟨_, _, [], 0, _, [], rfl, Fr.normP (F'.push _) rfl, ?_, .nil, by simp, rfl⟩
    intro p hp
    have hk : ∀ b o, hC.get? b = some o → (hC.push { cls := .type "list_iterator", data := .fields #[.ref DD, .int 0 0] }).get? b = some o := fun b o e => Heap.get?_push_of_some _ e
    have hm : p ∈ [(DD, W.listOf ws.toArray 0), (P, W.listOf #[] 0)] := by
      simp only [List.mem_cons, List.not_mem_nil, or_false] at hp ⊢
      exact hp.symm
    exact ⟨hk _ _ (N' p hm).1, (N' p hm).2⟩
  · rintro i s₃ v h₁ tk hi hst ⟨hh', tk', rs, n, u, ys, rfl, F₁, N₁, hSt, hok, hlen⟩ hv ⟨⟨oI, hoI, hI1, hI3⟩, hst2⟩ hk
    obtain ⟨k, t', rfl, hkm⟩ := IntsAre.at hI2 i v (by simpa using hv)
    have F₂ := Fr.but F₁ hk (Nat.ne_of_lt hLI) hIn
    have N₂ := News.but N₁ hk (by
      intro q hq
      simp only [List.mem_cons, List.not_mem_nil, or_false] at hq
      rcases hq with rfl | rfl
      · exact q1
      · exact q3)
    have N₃ : News s₁.heap s₁.heap.objs.size h₁ [(P, W.listOf rs.toArray n), (I, oI), (DD, W.listOf ws.toArray 0)] := by
      intro q hq
      simp only [List.mem_cons, List.not_mem_nil, or_false] at hq
      rcases hq with rfl | rfl | rfl
      · exact N₂ _ (by k_mem)
      · exact ⟨hoI, Ne.symm (Nat.ne_of_lt hLI), hIn⟩
      · exact N₂ _ (by k_mem)
    have hi' : i < 10 := by
      have : i < ws.length := by simpa using hi
      omega
    refine stN F₂ N₃ (fun h₂ F₃ N₄ => ?_)
    refine wpC_of ?_
    refine' law_turn1' KX T F₃ N₄ q1 q2 (by omega) ?ho ?e1 ?e2 ?_
    case ho => k_is
    case e1 => rfl
    case e2 => rfl
    intro h' tk₂ u' n' y t F₄ N₅ hy
    refine ⟨⟨⟨oI, (N₅ (I, oI) (by k_mem)).1, hI1, hI3⟩, ⟨_, (N₅ (DD, W.listOf ws.toArray 0) (by k_mem)).1, rfl, 0, rfl⟩⟩, h', tk₂, rs ++ [.str y t], n', u', ys ++ [y], rfl, F₄, ?_, hSt.append' (.cons _ _ .nil), ?_, by rw [List.length_append, hlen]; rfl⟩
    · intro q hq
      simp only [List.mem_cons, List.not_mem_nil, or_false] at hq
      rcases hq with rfl | rfl
      · exact N₅ _ (by k_mem)
      · exact N₅ _ (by k_mem)
    · intro y' hy'
      rcases List.mem_append.mp hy' with hy' | hy'
      · exact hok y' hy'
      · rw [List.mem_singleton.mp hy']; exact hy
  · rintro s₃ h₂ tk hst ⟨hh', tk', rs, n, u, ys, rfl, F₁, N₁, hSt, hok, hlen⟩ hk
    have F₂ := Fr.but F₁ hk (Nat.ne_of_lt hLI) hIn
    have N₂ := News.but N₁ hk (by
      intro q hq
      simp only [List.mem_cons, List.not_mem_nil, or_false] at hq
      rcases hq with rfl | rfl
      · exact q1
      · exact q3)
    clear F₁ N₁ hst hk F' N'
    have hyl : ys.length ≤ 10 := by
      have := hSt.length
      simp at hlen
      omega
    show wpC _ _ (execs [_, _, _] _) _ _ _
    refine execs_cutC (l1 := [_]) (l2 := [_, _]) ?_
    k_steps
    show wpC _ _ (execs [_, _] _) _ _ _
    rename (∀ c ∈ _, okC c = true) => hVo
    rename Fr _ _ _ _ => F₃
    rename (Str.length _ ≤ 50) => hVl
    have hsl : (Str.ofString "1.0rc1-beta+RC.pl007").length = 20 := by decide +kernel
    have hso : ∀ c ∈ (Str.ofString "1.0rc1-beta+RC.pl007").cps.toList, okC c = true := by decide +kernel
    refine' law_part2' (by decide +kernel) (by decide +kernel) KX T F₃ ?hV ?hok ?ho ?e1 ?e2 ?_
    case hV => rw [Str.length_append]; omega
    case hok =>
      intro c hc
      rw [Str.cps_append, Array.toList_append] at hc
      rcases List.mem_append.mp hc with hc | hc
      · exact hVo c hc
      · exact hso c hc
    case ho => k_is
    case e1 => rfl
    case e2 => rfl
    intro h' tk'' hk'
    exact GT _ hk' rfl hg
end Mine
end

theorem PySem.Challenge.cw_dz0075_01_holds : PySem.Challenge.rw_dz0075_01.Holds := by
  exact Mine.law_walk

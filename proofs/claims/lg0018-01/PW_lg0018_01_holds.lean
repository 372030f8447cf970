import PyProof.Rows.All
import Wide.All
import OpenK.AllK
import Wide.FinOn
import Lean
import PySem.Challenge.RW_lg0018_01

-- HeadT
section
open PySem PySem.W PyProof.Rows
set_option Elab.async false
namespace Mine
set_option maxRecDepth 100000
set_option maxHeartbeats 8000000
open_top hd for PySem.Challenge.rw_lg0018_01
end Mine
end

-- R1
section
set_option maxRecDepth 100000
namespace Mine
open PySem PySem.Sre

def code1 : Array Nat := #[14, 4, 0, 1, 4294967295, 17, 0, 24, 9, 1, 4294967295, 13, 4, 8, 12, 0, 1, 17, 1, 1]
def code2 : Array Nat := #[14, 4, 0, 0, 4294967295, 6, 0, 24, 9, 0, 4294967295, 13, 4, 8, 12, 0, 1, 6, 5, 1]
def code3 : Array Nat := #[14, 4, 0, 0, 4294967295, 6, 0, 17, 0, 24, 11, 0, 4294967295, 13, 6, 16, 32, 16, 9, 0, 1, 17, 1, 1]

theorem runFor_zero (m : M) : M.runFor 0 m = m := rfl
theorem runFor_of_some {m : M} (n : Nat) (h : m.outcome.isSome = true) : M.runFor n m = m := by
  cases n with
  | zero => rfl
  | succ n => simp [M.runFor, h]
theorem runFor_step {m : M} (n : Nat) (h : m.outcome = none) : M.runFor (n + 1) m = M.runFor n m.step := by
  simp [M.runFor, h]
theorem runFor_add (a b : Nat) (m : M) : M.runFor (a + b) m = M.runFor b (M.runFor a m) := by
  induction a generalizing m with
  | zero => simp [M.runFor]
  | succ a ih =>
    cases h : m.outcome with
    | some o => rw [runFor_of_some _ (by simp [h]), runFor_of_some (a + 1) (by simp [h]), runFor_of_some _ (by simp [h])]
    | none => rw [Nat.succ_add, runFor_step _ h, runFor_step _ h, ih]

/-- one-sign tests -/
theorem acc_space1 (c : Nat) (sn : Seen) : ∃ sn', accepts code1 11 c sn = .ok (Unicode.isSpace c, sn') := by
  cases h : Unicode.isSpace c with
  | true => exact ⟨(sn.add 8).add 67, by simp [accepts, code1, inSet, ops, category, h, Except.map]; rfl⟩
  | false => exact ⟨((sn.add 8).add 67).add 0, by simp [accepts, code1, inSet, ops, category, h, Except.map]; rfl⟩
theorem acc_space2 (c : Nat) (sn : Seen) : ∃ sn', accepts code2 11 c sn = .ok (Unicode.isSpace c, sn') := by
  cases h : Unicode.isSpace c with
  | true => exact ⟨(sn.add 8).add 67, by simp [accepts, code2, inSet, ops, category, h, Except.map]; rfl⟩
  | false => exact ⟨((sn.add 8).add 67).add 0, by simp [accepts, code2, inSet, ops, category, h, Except.map]; rfl⟩
def isInd (c : Nat) : Bool := c == 32 || c == 9
theorem acc_ind (c : Nat) (sn : Seen) : ∃ sn', accepts code3 13 c sn = .ok (isInd c, sn') := by
  by_cases h : c = 32
  · subst h; exact ⟨_, rfl⟩
  · by_cases h2 : c = 9
    · subst h2; exact ⟨_, rfl⟩
    · refine ⟨((sn.add 16).add 16).add 0, ?_⟩
      simp [accepts, code3, inSet, ops, h, h2, isInd]

/-- the run over a class of signs -/
def cnt (p : Nat → Bool) (text : Array Nat) : (n q : Nat) → Nat
  | 0, _ => 0
  | n + 1, q => if p (text.getD q 0) then cnt p text n (q + 1) + 1 else 0
theorem run_cnt {code : Array Nat} {i : Nat} {p : Nat → Bool} (ha : ∀ c sn, ∃ sn', accepts code i c sn = .ok (p c, sn')) (text : Array Nat) :
    ∀ (n q f : Nat) (sn : Seen), ∃ sn', Sre.run code text i n q f sn = .ok (f + cnt p text n q, sn')
  | 0, q, f, sn => ⟨sn, rfl⟩
  | n + 1, q, f, sn => by
    obtain ⟨sn1, h1⟩ := ha (text.getD q 0) sn
    cases hp : p (text.getD q 0) with
    | true =>
      obtain ⟨sn2, h2⟩ := run_cnt ha text n (q + 1) (f + 1) sn1
      refine ⟨sn2, ?_⟩
      simp only [Sre.run, h1, hp, cnt, if_true]
      show Sre.run code text i n (q + 1) (f + 1) sn1 = _
      rw [h2]; congr 2; omega
    | false =>
      refine ⟨sn1, ?_⟩
      simp only [Sre.run, h1, hp, cnt]
      rfl

/-- the machine at hand: a plain attempt, no loops -/
abbrev mk (code text : Array Nat) (lim start ls pc pos handed : Nat) (om : Bool) (marks : Array (Option Nat)) (lm li : Int) (frames : List Sre.Frame) (wt : Nat) (ans : Option Bool) (sn : Seen) (out : Option Sre.Outcome) : M :=
  { code, text, lim, start, lastStart := ls, pc, pos, handed, outermost := om, marks, lastmark := lm, lastindex := li, frames, weight := wt, answer := ans, seen := sn, outcome := out }

section
variable (text : Array Nat) (lim start ls pos handed : Nat) (om : Bool) (marks : Array (Option Nat)) (lm li : Int) (frames : List Sre.Frame) (wt : Nat) (sn : Seen)

theorem say_end (code : Array Nat) (pc : Nat) (b : Bool) : (mk code text lim start ls pc pos handed om marks lm li [] wt (some b) sn none).step =
    mk code text lim start ls pc pos handed om marks lm li [] wt (some b) sn (some (if b then .matched else .failed)) := rfl

theorem s2_at : (mk code2 text lim start ls 5 0 handed om marks lm li frames wt none sn none).step = mk code2 text lim start ls 7 0 handed om marks lm li frames wt none ((sn.add 6).add 43) none := rfl
end

theorem attempt_ok (m : M) (f : Sre.Frame) (t p : Nat) (o : Bool) (hk : f.kept.marks = #[]) (hw : m.weight < 1000) :
    m.attempt f t p o = { m with frames := f :: m.frames, weight := m.weight + 1, pc := t, pos := p, handed := p, outermost := o } := by
  have e : ¬ (m.weight + 1 + f.kept.marks.size > 16777216) := by rw [hk]; simp only [Array.size_empty]; omega
  unfold M.attempt
  rw [if_neg e, hk]; rfl

theorem exec_rep (m : M) {least most n : Nat} {sn' : Seen} (h : ops[m.word 0]? = some .REPEAT_ONE) (hl : m.word 2 = least) (hm : m.word 3 = most) (hle : m.pos ≤ m.lim) (hroom : least ≤ m.lim - m.pos)
    (hrun : Sre.run m.code m.text (m.pc + 4) (min most (m.lim - m.pos)) m.pos 0 ((m.seen.add (m.word 0)).add (m.word 4)) = .ok (n, sn')) :
    m.exec = if n < least then ({ m with seen := sn' } : M).say false
      else ({ m with seen := sn', pos := m.pos + n } : M).afterRun .giveBack n (({ m with seen := sn', pos := m.pos + n } : M).keep m.inner.isSome) := by
  have e : ((m.lim : Int) - (m.pos : Int)).toNat = m.lim - m.pos := by omega
  have e2 : ¬ ((least : Int) > (m.lim : Int) - (m.pos : Int)) := by omega
  unfold M.exec
  simp only [h]
  have w1 : ∀ k sn, M.word { m with seen := sn } k = m.word k := fun _ _ => rfl
  simp only [w1, hl, hm, if_neg e2, Bool.false_eq_true, if_false, e, hrun]

section
variable (text : Array Nat) (lim start ls pos handed : Nat) (om : Bool) (marks : Array (Option Nat)) (lm li : Int) (frames : List Sre.Frame) (wt : Nat) (sn : Seen)

abbrev gb (pc pos n : Nat) (om : Bool) (lm li : Int) : Sre.Frame := { wait := .giveBack, pc := pc, pos := pos, outermost := om, count := n, kept := { lastmark := lm, lastindex := li, whole := false, marks := #[] } }

theorem s2_rep {n : Nat} (hw : wt < 1000) (hle : pos ≤ lim) (hn : cnt Unicode.isSpace text (min 4294967295 (lim - pos)) pos = n) :
    ∃ sn', (mk code2 text lim start ls 7 pos handed om marks lm li frames wt none sn none).step =
      mk code2 text lim start ls 17 (pos + n) (pos + n) om marks lm li (gb 7 (pos + n) n om lm li :: frames) (wt + 1) none sn' none := by
  obtain ⟨sn', h⟩ := run_cnt (i := 11) acc_space2 text (min 4294967295 (lim - pos)) pos 0 ((sn.add 24).add 13)
  rw [hn, Nat.zero_add] at h
  refine ⟨sn', ?_⟩
  refine (exec_rep (mk code2 text lim start ls 7 pos handed om marks lm li frames wt none sn none) (least := 0) (most := 4294967295) rfl rfl rfl hle (Nat.zero_le _) h).trans ?_
  rw [if_neg (Nat.not_lt_zero _)]
  exact (attempt_ok _ _ _ _ _ rfl hw).trans rfl

theorem s2_end {p : Nat} (hp : p ≠ lim) (hno : text.getD p 0 ≠ 10) :
    (mk code2 text lim start ls 17 p handed om marks lm li frames wt none sn none).step = mk code2 text lim start ls 17 p handed om marks lm li frames wt (some false) ((sn.add 6).add 48) none := by
  have : ((p == lim) || (p + 1 == lim && text.getD p 0 == 10)) = false := by
    have e1 : (p == lim) = false := by simpa using hp
    have e2 : (text.getD p 0 == 10) = false := beq_eq_false_iff_ne.mpr hno
    rw [e1, e2, Bool.and_false]; rfl
  show (let m := mk code2 text lim start ls 17 p handed om marks lm li frames wt none ((sn.add 6).add 48) none; if ((p == lim) || (p + 1 == lim && text.getD p 0 == 10)) = true then { m with pc := m.pc + 2 } else m.say false) = _
  rw [this]; rfl

theorem s2_end_ok :
    (mk code2 text lim start ls 17 lim handed om marks lm li frames wt none sn none).step = mk code2 text lim start ls 19 lim handed om marks lm li frames wt none ((sn.add 6).add 48) none := by
  have : ((lim == lim) || (lim + 1 == lim && text.getD lim 0 == 10)) = true := by simp
  show (let m := mk code2 text lim start ls 17 lim handed om marks lm li frames wt none ((sn.add 6).add 48) none; if ((lim == lim) || (lim + 1 == lim && text.getD lim 0 == 10)) = true then { m with pc := m.pc + 2 } else m.say false) = _
  rw [this]; rfl
theorem s2_suc : (mk code2 text lim start ls 19 pos handed om marks lm li frames wt none sn none).step = mk code2 text lim start ls 19 pos pos om marks lm li frames wt (some true) (sn.add 1) none := by
  cases om <;> rfl
theorem s2_back_ok {p q n : Nat} {om' : Bool} {lm' li' : Int} {pc' : Nat} : (mk code2 text lim start ls pc' p handed om' marks lm' li' (gb 7 q n om lm li :: frames) (wt + 1) (some true) sn none).step =
    mk code2 text lim start ls 7 q handed om marks lm' li' frames wt (some true) sn none := rfl
theorem s2_back_zero {p q : Nat} {om' : Bool} {lm' li' : Int} {pc' : Nat} : (mk code2 text lim start ls pc' p handed om' marks lm' li' (gb 7 q 0 om lm li :: frames) (wt + 1) (some false) sn none).step =
    mk code2 text lim start ls 7 q handed om marks lm li frames wt (some false) sn none := rfl
theorem s2_back_succ {p q n : Nat} {om' : Bool} {lm' li' : Int} {pc' : Nat} (hw : wt < 1000) : (mk code2 text lim start ls pc' p handed om' marks lm' li' (gb 7 q (n + 1) om lm li :: frames) (wt + 1) (some false) sn none).step =
    mk code2 text lim start ls 17 (q - 1) (q - 1) om marks lm li (gb 7 (q - 1) n om lm li :: frames) (wt + 1) none sn none := by
  have e : ¬ ((((n + 1 : Nat) : Int)) - 1 < ((0 : Nat) : Int)) := by omega
  have e1 : (((n + 1 : Nat) : Int)) - 1 = (n : Int) := by omega
  show (if (((n + 1 : Nat) : Int)) - 1 < ((0 : Nat) : Int) then (_ : M) else (mk code2 text lim start ls 7 (q - 1) handed om marks lm li frames wt none sn none).afterRun .giveBack ((((n + 1 : Nat) : Int)) - 1) { lastmark := lm, lastindex := li, whole := false, marks := #[] }) = _
  rw [if_neg e, e1]
  exact (attempt_ok _ _ _ _ _ rfl hw).trans rfl

/-- from the end's test on, where it fails: back to the empty run, and no -/
theorem m2_fail (hno : ∀ q, text.getD q 0 ≠ 10) (n : Nat) : ∀ (p : Nat) (handed : Nat) (sn : Seen), p < lim → n ≤ p →
    ∃ m', M.runFor (2 * n + 3) (mk code2 text lim start ls 17 p handed om marks lm li [gb 7 p n om lm li] 1 none sn none) = m' ∧ m'.outcome = some .failed := by
  induction n with
  | zero =>
    intro p handed sn hp _
    refine ⟨_, rfl, ?_⟩
    rw [runFor_step _ rfl, s2_end _ _ _ _ _ _ _ _ _ _ _ _ (Nat.ne_of_lt hp) (hno p), runFor_step _ rfl, s2_back_zero, runFor_step _ rfl, say_end]
    rfl
  | succ n ih =>
    intro p handed sn hp hle
    obtain ⟨m', h1, h2⟩ := ih (p - 1) (p - 1) ((sn.add 6).add 48) (by omega) (by omega)
    refine ⟨m', ?_, h2⟩
    rw [show 2 * (n + 1) + 3 = (2 * n + 3) + 1 + 1 from by omega, runFor_step _ rfl, s2_end _ _ _ _ _ _ _ _ _ _ _ _ (Nat.ne_of_lt hp) (hno p), runFor_step _ rfl, s2_back_succ _ _ _ _ _ _ _ _ _ _ _ _ (by omega)]
    exact h1
end

theorem cnt_le (p : Nat → Bool) (text : Array Nat) : ∀ n q, cnt p text n q ≤ n
  | 0, _ => Nat.le_refl _
  | n + 1, q => by
    unfold cnt
    split
    · have := cnt_le p text n (q + 1); omega
    · omega

/-- «^\s*$» -/
theorem m2_spec0 (text : Array Nat) (hsz : text.size ≤ 4294967295) (hno : ∀ q, text.getD q 0 ≠ 10) :
    ∃ n m', n ≤ 2 * text.size + 10 ∧ M.runFor n (forMatch code2 text 0 0 text.size false false) = m' ∧
      m'.outcome = some (if cnt Unicode.isSpace text text.size 0 = text.size then .matched else .failed) := by
  have hm : min 4294967295 (text.size - 0) = text.size := by omega
  have h0 : forMatch code2 text 0 0 text.size false false = mk code2 text text.size 0 0 5 0 0 true #[] (-1) (-1) [] 0 none (({} : Seen).add 14) none := rfl
  have hc : cnt Unicode.isSpace text (min 4294967295 (text.size - 0)) 0 = cnt Unicode.isSpace text text.size 0 := by rw [hm]
  obtain ⟨sn', h1⟩ := s2_rep text text.size 0 0 0 0 true #[] (-1) (-1) [] 0 (((({} : Seen).add 14).add 6).add 43) (by omega) (Nat.zero_le _) hc
  have hle := cnt_le Unicode.isSpace text text.size 0
  rw [Nat.zero_add] at h1
  generalize cnt Unicode.isSpace text text.size 0 = k at h1 hle ⊢
  by_cases hk : k = text.size
  · rw [if_pos hk]
    rw [hk] at h1
    refine ⟨6, _, by omega, rfl, ?_⟩
    rw [h0, runFor_step _ rfl, s2_at, runFor_step _ rfl, h1, runFor_step _ rfl, s2_end_ok, runFor_step _ rfl, s2_suc, runFor_step _ rfl, s2_back_ok, runFor_step _ rfl, say_end]
    rfl
  · rw [if_neg hk]
    obtain ⟨m', h2, h3⟩ := m2_fail text text.size 0 0 true #[] (-1) (-1) hno k k k sn' (by omega) (Nat.le_refl _)
    refine ⟨(2 * k + 3) + 1 + 1, m', by omega, ?_, h3⟩
    rw [h0, runFor_step _ rfl, s2_at, runFor_step _ rfl, h1]
    exact h2

theorem m2_spec (text : Array Nat) (hsz : text.size ≤ 4294967295) (hno : ∀ q, text.getD q 0 ≠ 10) :
    ∃ n m', n ≤ 2 * text.size + 10 ∧ M.runFor n (forMatch code2 text 0 0 text.size false false) = m' ∧
      ((cnt Unicode.isSpace text text.size 0 = text.size ∧ m'.outcome = some .matched) ∨ (cnt Unicode.isSpace text text.size 0 ≠ text.size ∧ m'.outcome = some .failed)) := by
  obtain ⟨n, m', h1, h2, h3⟩ := m2_spec0 text hsz hno
  refine ⟨n, m', h1, h2, ?_⟩
  clear h1 h2
  split at h3
  · exact .inl ⟨by assumption, h3⟩
  · exact .inr ⟨by assumption, h3⟩

section
variable (text : Array Nat) (lim start ls pos handed : Nat) (om : Bool) (marks : Array (Option Nat)) (lm li : Int) (frames : List Sre.Frame) (wt : Nat) (sn : Seen)
theorem s3_at : (mk code3 text lim start ls 5 0 handed om marks lm li frames wt none sn none).step = mk code3 text lim start ls 7 0 handed om marks lm li frames wt none ((sn.add 6).add 43) none := rfl
theorem s3_mark0 : (mk code3 text lim start ls 7 pos handed om #[none, none] (-1) (-1) frames wt none sn none).step = mk code3 text lim start ls 9 pos handed om #[some pos, none] 0 (-1) frames wt none (sn.add 17) none := rfl
theorem s3_rep {n : Nat} (hw : wt < 1000) (hle : pos ≤ lim) (hn : cnt isInd text (min 4294967295 (lim - pos)) pos = n) :
    ∃ sn', (mk code3 text lim start ls 9 pos handed om marks lm li frames wt none sn none).step =
      mk code3 text lim start ls 21 (pos + n) (pos + n) om marks lm li (gb 9 (pos + n) n om lm li :: frames) (wt + 1) none sn' none := by
  obtain ⟨sn', h⟩ := run_cnt (i := 13) acc_ind text (min 4294967295 (lim - pos)) pos 0 ((sn.add 24).add 13)
  rw [hn, Nat.zero_add] at h
  refine ⟨sn', ?_⟩
  refine (exec_rep (mk code3 text lim start ls 9 pos handed om marks lm li frames wt none sn none) (least := 0) (most := 4294967295) rfl rfl rfl hle (Nat.zero_le _) h).trans ?_
  rw [if_neg (Nat.not_lt_zero _)]
  exact (attempt_ok _ _ _ _ _ rfl hw).trans rfl
theorem s3_mark1 {p : Nat} : (mk code3 text lim start ls 21 pos handed om #[some p, none] 0 (-1) frames wt none sn none).step = mk code3 text lim start ls 23 pos handed om #[some p, some pos] 1 1 frames wt none (sn.add 17) none := by kernel_rfl
theorem s3_suc : (mk code3 text lim start ls 23 pos handed om marks lm li frames wt none sn none).step = mk code3 text lim start ls 23 pos pos om marks lm li frames wt (some true) (sn.add 1) none := by
  cases om <;> rfl
theorem s3_back_ok {p q n : Nat} {om' : Bool} {lm' li' : Int} {pc' : Nat} : (mk code3 text lim start ls pc' p handed om' marks lm' li' (gb 9 q n om lm li :: frames) (wt + 1) (some true) sn none).step =
    mk code3 text lim start ls 9 q handed om marks lm' li' frames wt (some true) sn none := rfl
end

/-- «^([ \t]*)» -/
theorem m3_spec (text : Array Nat) (hsz : text.size ≤ 4294967295) :
    ∃ m', M.runFor 7 (forMatch code3 text 1 0 text.size false false) = m' ∧ m'.outcome = some .matched ∧ m'.start = 0 ∧ m'.handed = cnt isInd text text.size 0 ∧
      m'.marks = #[some 0, some (cnt isInd text text.size 0)] ∧ m'.lastmark = 1 ∧ m'.lastindex = 1 := by
  have hm : min 4294967295 (text.size - 0) = text.size := by omega
  have h0 : forMatch code3 text 1 0 text.size false false = mk code3 text text.size 0 0 5 0 0 true #[none, none] (-1) (-1) [] 0 none (({} : Seen).add 14) none := rfl
  have hc : cnt isInd text (min 4294967295 (text.size - 0)) 0 = cnt isInd text text.size 0 := by rw [hm]
  obtain ⟨sn', h1⟩ := s3_rep text text.size 0 0 0 0 true #[some 0, none] 0 (-1) [] 0 ((((({} : Seen).add 14).add 6).add 43).add 17) (by omega) (Nat.zero_le _) hc
  rw [Nat.zero_add] at h1
  generalize cnt isInd text text.size 0 = k at h1 ⊢
  refine ⟨_, rfl, ?_⟩
  rw [h0, runFor_step _ rfl, s3_at, runFor_step _ rfl, s3_mark0, runFor_step _ rfl, h1, runFor_step _ rfl, s3_mark1, runFor_step _ rfl, s3_suc, runFor_step _ rfl, s3_back_ok, runFor_step _ rfl, say_end]
  exact ⟨rfl, rfl, rfl, rfl, rfl, rfl⟩

section
variable (text : Array Nat) (lim start ls pos handed : Nat) (om : Bool) (marks : Array (Option Nat)) (lm li : Int) (frames : List Sre.Frame) (wt : Nat) (sn : Seen)
abbrev nx (s : Nat) (om : Bool) : Sre.Frame := { wait := .nextStart, pc := 5, pos := s, outermost := om }
theorem s1_mark0 {a b : Option Nat} : (mk code1 text lim start ls 5 pos handed om #[a, b] (-1) (-1) frames wt none sn none).step = mk code1 text lim start ls 7 pos handed om #[some pos, b] 0 (-1) frames wt none (sn.add 17) none := rfl
theorem s1_rep_short (hle : lim ≤ pos) : (mk code1 text lim start ls 7 pos handed om marks lm li frames wt none sn none).step = mk code1 text lim start ls 7 pos handed om marks lm li frames wt (some false) (sn.add 24) none := by
  have e : ((1 : Nat) : Int) > (lim : Int) - (pos : Int) := by omega
  show (if ((1 : Nat) : Int) > (lim : Int) - (pos : Int) then mk code1 text lim start ls 7 pos handed om marks lm li frames wt (some false) (sn.add 24) none else (_ : M)) = _
  rw [if_pos e]
theorem s1_rep_no (hle : pos < lim) (hn : Unicode.isSpace (text.getD pos 0) = false) :
    ∃ sn', (mk code1 text lim start ls 7 pos handed om marks lm li frames wt none sn none).step = mk code1 text lim start ls 7 pos handed om marks lm li frames wt (some false) sn' none := by
  obtain ⟨sn', h⟩ := run_cnt (i := 11) acc_space1 text (min 4294967295 (lim - pos)) pos 0 ((sn.add 24).add 13)
  have hz : cnt Unicode.isSpace text (min 4294967295 (lim - pos)) pos = 0 := by
    cases hq : min 4294967295 (lim - pos) with
    | zero => rfl
    | succ k => unfold cnt; rw [hn]; rfl
  rw [hz] at h
  refine ⟨sn', ?_⟩
  refine (exec_rep (mk code1 text lim start ls 7 pos handed om marks lm li frames wt none sn none) (least := 1) (most := 4294967295) rfl rfl rfl (Nat.le_of_lt hle) (show 1 ≤ lim - pos by omega) h).trans ?_
  rw [if_pos (by omega)]
  rfl
theorem s1_rep {n : Nat} (hw : wt < 1000) (hle : pos < lim) (hn : cnt Unicode.isSpace text (min 4294967295 (lim - pos)) pos = n) (h1 : 1 ≤ n) :
    ∃ sn', (mk code1 text lim start ls 7 pos handed om marks lm li frames wt none sn none).step =
      mk code1 text lim start ls 17 (pos + n) (pos + n) om marks lm li (gb 7 (pos + n) n om lm li :: frames) (wt + 1) none sn' none := by
  obtain ⟨sn', h⟩ := run_cnt (i := 11) acc_space1 text (min 4294967295 (lim - pos)) pos 0 ((sn.add 24).add 13)
  rw [hn, Nat.zero_add] at h
  refine ⟨sn', ?_⟩
  refine (exec_rep (mk code1 text lim start ls 7 pos handed om marks lm li frames wt none sn none) (least := 1) (most := 4294967295) rfl rfl rfl (Nat.le_of_lt hle) (show 1 ≤ lim - pos by omega) h).trans ?_
  rw [if_neg (by omega)]
  exact (attempt_ok _ _ _ _ _ rfl hw).trans rfl
theorem s1_mark1 {p : Nat} {b : Option Nat} : (mk code1 text lim start ls 17 pos handed om #[some p, b] 0 (-1) frames wt none sn none).step = mk code1 text lim start ls 19 pos handed om #[some p, some pos] 1 1 frames wt none (sn.add 17) none := by kernel_rfl
theorem s1_suc : (mk code1 text lim start ls 19 pos handed om marks lm li frames wt none sn none).step = mk code1 text lim start ls 19 pos pos om marks lm li frames wt (some true) (sn.add 1) none := by
  cases om <;> rfl
theorem s1_back_ok {p q n : Nat} {om' : Bool} {lm' li' : Int} {pc' : Nat} : (mk code1 text lim start ls pc' p handed om' marks lm' li' (gb 7 q n om lm li :: frames) (wt + 1) (some true) sn none).step =
    mk code1 text lim start ls 7 q handed om marks lm' li' frames wt (some true) sn none := rfl
theorem s1_start_ok {p q : Nat} {om' : Bool} {pc' : Nat} : (mk code1 text lim start ls pc' p handed om' marks lm li (nx q om :: frames) (wt + 1) (some true) sn none).step =
    mk code1 text lim start ls 5 q handed om marks lm li frames wt (some true) sn none := rfl
theorem s1_start_next {p q : Nat} {om' : Bool} {pc' : Nat} (hw : wt < 1000) (hq : q < ls) : (mk code1 text lim start ls pc' p handed om' marks lm li (nx q om :: frames) (wt + 1) (some false) sn none).step =
    mk code1 text lim (q + 1) ls 5 (q + 1) (q + 1) false marks (-1) (-1) (nx (q + 1) false :: frames) (wt + 1) none sn none := by
  show (if q < ls then M.attemptFrom (mk code1 text lim start ls 5 q handed om marks lm li frames wt none sn none) (q + 1) false else (_ : M)) = _
  rw [if_pos hq]
  exact (attempt_ok ({ mk code1 text lim start ls 5 q handed om marks lm li frames wt none sn none with start := q + 1, pos := q + 1, lastmark := -1, lastindex := -1 }) _ _ _ _ rfl hw).trans rfl
theorem s1_start_end {p q : Nat} {om' : Bool} {pc' : Nat} (hq : ¬ q < ls) : (mk code1 text lim start ls pc' p handed om' marks lm li (nx q om :: frames) (wt + 1) (some false) sn none).step =
    mk code1 text lim start ls 5 q handed om marks lm li frames wt (some false) sn none := by
  show (if q < ls then (_ : M) else mk code1 text lim start ls 5 q handed om marks lm li frames wt (some false) sn none) = _
  rw [if_neg hq]
end

/-- the first blank at or behind p (lim: none) -/
def firstSp (text : Array Nat) : (fuel p : Nat) → Nat
  | 0, p => p
  | f + 1, p => if Unicode.isSpace (text.getD p 0) then p else firstSp text f (p + 1)

theorem firstSp_ge (text : Array Nat) : ∀ f p, p ≤ firstSp text f p ∧ firstSp text f p ≤ p + f
  | 0, p => ⟨Nat.le_refl _, Nat.le_refl _⟩
  | f + 1, p => by
    unfold firstSp
    split
    · omega
    · have := firstSp_ge text f (p + 1); omega

/-- the search from a start on -/
theorem m1_go (text : Array Nat) (hsz : text.size ≤ 4294967295) : ∀ (f p : Nat) (handed : Nat) (om : Bool) (a b : Option Nat) (sn : Seen), f = text.size - p → p ≤ text.size →
    ∃ n m', n ≤ 3 * f + 10 ∧ M.runFor n (mk code1 text text.size p text.size 5 p handed om #[a, b] (-1) (-1) [nx p om] 1 none sn none) = m' ∧
      (if firstSp text f p < text.size then
        m'.outcome = some .matched ∧ m'.start = firstSp text f p ∧ m'.handed = firstSp text f p + cnt Unicode.isSpace text (text.size - firstSp text f p) (firstSp text f p) ∧
          m'.marks = #[some (firstSp text f p), some (firstSp text f p + cnt Unicode.isSpace text (text.size - firstSp text f p) (firstSp text f p))] ∧ m'.lastmark = 1
      else m'.outcome = some .failed) := by
  intro f
  induction f with
  | zero =>
    intro p handed om a b sn hf hp
    have hpe : p = text.size := by omega
    refine ⟨4, _, by omega, rfl, ?_⟩
    rw [if_neg (by simp only [firstSp]; omega)]
    rw [runFor_step _ rfl, s1_mark0, runFor_step _ rfl, s1_rep_short _ _ _ _ _ _ _ _ _ _ _ _ _ (by omega), runFor_step _ rfl, s1_start_end _ _ _ _ _ _ _ _ _ _ _ _ (by omega), runFor_step _ rfl, say_end]
    rfl
  | succ f ih =>
    intro p handed om a b sn hf hp
    have hlt : p < text.size := by omega
    cases hs : Unicode.isSpace (text.getD p 0) with
    | false =>
      have e : firstSp text (f + 1) p = firstSp text f (p + 1) := by rw [firstSp, hs]; rfl
      rw [e]
      obtain ⟨sn', h1⟩ := s1_rep_no text text.size p text.size p handed om #[some p, b] 0 (-1) [nx p om] 1 (sn.add 17) hlt hs
      obtain ⟨n, m', hn, h2, h3⟩ := ih (p + 1) (p + 1) false (some p) b sn' (by omega) (by omega)
      refine ⟨n + 1 + 1 + 1, m', by omega, ?_, h3⟩
      rw [runFor_step _ rfl, s1_mark0, runFor_step _ rfl, h1, runFor_step _ rfl, s1_start_next _ _ _ _ _ _ _ _ _ _ _ _ (by omega) hlt]
      exact h2
    | true =>
      have e : firstSp text (f + 1) p = p := by rw [firstSp, hs]; rfl
      rw [e]
      have hm : min 4294967295 (text.size - p) = text.size - p := by omega
      have hc1 : 1 ≤ cnt Unicode.isSpace text (text.size - p) p := by rw [← hf, cnt, hs]; simp
      obtain ⟨sn', h1⟩ := s1_rep text text.size p text.size p handed om #[some p, b] 0 (-1) [nx p om] 1 (sn.add 17) (n := cnt Unicode.isSpace text (text.size - p) p) (by omega) hlt (by rw [hm]) hc1
      generalize cnt Unicode.isSpace text (text.size - p) p = k at h1 hc1 ⊢
      refine ⟨7, _, by omega, rfl, ?_⟩
      rw [if_pos hlt, runFor_step _ rfl, s1_mark0, runFor_step _ rfl, h1, runFor_step _ rfl, s1_mark1, runFor_step _ rfl, s1_suc, runFor_step _ rfl, s1_back_ok, runFor_step _ rfl, s1_start_ok, runFor_step _ rfl, say_end]
      exact ⟨rfl, rfl, rfl, rfl, rfl⟩

/-- «(\s+)», searched from p on -/
theorem m1_spec0 (text : Array Nat) (hsz : text.size ≤ 4294967295) (p : Nat) (hp : p ≤ text.size) :
    ∃ n m', n ≤ 3 * text.size + 10 ∧ M.runFor n (forSearch code1 text 1 p text.size false) = m' ∧
      (if firstSp text (text.size - p) p < text.size then
        m'.outcome = some .matched ∧ m'.start = firstSp text (text.size - p) p ∧ m'.handed = firstSp text (text.size - p) p + cnt Unicode.isSpace text (text.size - firstSp text (text.size - p) p) (firstSp text (text.size - p) p) ∧
          m'.marks = #[some (firstSp text (text.size - p) p), some (firstSp text (text.size - p) p + cnt Unicode.isSpace text (text.size - firstSp text (text.size - p) p) (firstSp text (text.size - p) p))] ∧ m'.lastmark = 1
      else m'.outcome = some .failed) := by
  by_cases hlt : p < text.size
  · have h0 : forSearch code1 text 1 p text.size false = mk code1 text text.size p text.size 5 p p true #[none, none] (-1) (-1) [nx p true] 1 none (({} : Seen).add 14) none := by
      have e : (decide (p > text.size) || decide (text.size - p < 1)) = false := by
        rw [decide_eq_false (by omega), decide_eq_false (by omega)]; rfl
      show (if (decide (p > text.size) || decide (text.size - p < 1)) = true then (_ : M) else M.attemptFrom (mk code1 text text.size p text.size 5 p p true #[none, none] (-1) (-1) [] 0 none (({} : Seen).add 14) none) p true) = _
      rw [e, if_neg Bool.false_ne_true]
      exact (attempt_ok ({ mk code1 text text.size p text.size 5 p p true #[none, none] (-1) (-1) [] 0 none (({} : Seen).add 14) none with start := p, pos := p, lastmark := -1, lastindex := -1 }) (nx p true) _ _ _ rfl (by show 0 < 1000; omega)).trans rfl
    obtain ⟨n, m', hn, h1, h2⟩ := m1_go text hsz (text.size - p) p p true none none (({} : Seen).add 14) rfl hp
    exact ⟨n, m', by omega, by rw [h0]; exact h1, h2⟩
  · have hpe : p = text.size := by omega
    have h0 : forSearch code1 text 1 p text.size false = mk code1 text text.size p 0 5 p p true #[none, none] (-1) (-1) [] 0 (some false) (({} : Seen).add 14) none := by
      have e : (decide (p > text.size) || decide (text.size - p < 1)) = true := by
        rw [decide_eq_true (p := text.size - p < 1) (by omega), Bool.or_true]
      show (if (decide (p > text.size) || decide (text.size - p < 1)) = true then mk code1 text text.size p 0 5 p p true #[none, none] (-1) (-1) [] 0 (some false) (({} : Seen).add 14) none else (_ : M)) = _
      rw [e, if_pos rfl]
    refine ⟨1, _, by omega, rfl, ?_⟩
    have hz : text.size - p = 0 := by omega
    rw [hz, if_neg (by simp only [firstSp]; omega), h0, runFor_step _ rfl, say_end]
    rfl

theorem m1_spec (text : Array Nat) (hsz : text.size ≤ 4294967295) (p : Nat) (hp : p ≤ text.size) (q e : Nat) (hq : firstSp text (text.size - p) p = q) (he : q + cnt Unicode.isSpace text (text.size - q) q = e) :
    ∃ n m', n ≤ 3 * text.size + 10 ∧ M.runFor n (forSearch code1 text 1 p text.size false) = m' ∧
      ((q < text.size ∧ m'.outcome = some .matched ∧ m'.start = q ∧ m'.handed = e ∧ m'.marks = #[some q, some e] ∧ m'.lastmark = 1) ∨ (¬ q < text.size ∧ m'.outcome = some .failed)) := by
  obtain ⟨n, m', h1, h2, h3⟩ := m1_spec0 text hsz p hp
  rw [hq] at h3
  rw [he] at h3
  refine ⟨n, m', h1, h2, ?_⟩
  clear h1 h2
  split at h3
  · exact .inl ⟨by assumption, h3⟩
  · exact .inr ⟨by assumption, h3⟩
end Mine
end

-- P0
section
set_option maxRecDepth 100000
set_option linter.unusedVariables false
namespace Mine
open PySem

abbrev sp : Nat → Bool := Unicode.isSpace
abbrev ns (c : Nat) : Bool := !sp c

def chunks : Nat → List Nat → List (List Nat)
  | 0, l => [l]
  | f + 1, l => match l.dropWhile ns with
    | [] => [l]
    | c :: r => l.takeWhile ns :: (c :: r).takeWhile sp :: chunks f ((c :: r).dropWhile sp)

theorem dropWhile_length_le (p : Nat → Bool) (l : List Nat) : (l.dropWhile p).length ≤ l.length := by
  have := congrArg List.length (List.takeWhile_append_dropWhile (p := p) (l := l))
  rw [List.length_append] at this; omega

theorem dropWhile_head {p : Nat → Bool} : ∀ {l : List Nat} {c : Nat} {r : List Nat}, l.dropWhile p = c :: r → p c = false
  | [], _, _, h => by cases h
  | a :: l, c, r, h => by
    rw [List.dropWhile_cons] at h
    split at h
    · exact dropWhile_head h
    · rename_i hp; cases h; simpa using hp

theorem chunks_fuel : ∀ (f f' : Nat) (l : List Nat), l.length ≤ f → l.length ≤ f' → chunks f l = chunks f' l := by
  intro f
  induction f with
  | zero =>
    intro f' l h _
    have : l = [] := List.length_eq_zero_iff.mp (by omega)
    subst this
    cases f' <;> rfl
  | succ f ih =>
    intro f' l h h'
    cases f' with
    | zero =>
      have : l = [] := List.length_eq_zero_iff.mp (by omega)
      subst this; rfl
    | succ f' =>
      unfold chunks
      cases hd : l.dropWhile ns with
      | nil => rfl
      | cons c r =>
        have hc : sp c = true := by have := dropWhile_head hd; simpa [ns] using this
        have hl := dropWhile_length_le ns l
        rw [hd, List.length_cons] at hl
        have e : (c :: r).dropWhile sp = r.dropWhile sp := by rw [List.dropWhile_cons, hc]; rfl
        have hl2 := dropWhile_length_le sp r
        simp only [e]
        rw [ih f' _ (by omega) (by omega)]

/-- what «(\s+)» splits -/
def chk (l : List Nat) : List (List Nat) := chunks l.length l
theorem chk_nil {l : List Nat} (h : l.dropWhile ns = []) : chk l = [l] := by
  unfold chk
  cases hl : l.length with
  | zero => rfl
  | succ n => unfold chunks; rw [h]
theorem chk_cons {l : List Nat} {c : Nat} {r : List Nat} (h : l.dropWhile ns = c :: r) : chk l = l.takeWhile ns :: (c :: r).takeWhile sp :: chk ((c :: r).dropWhile sp) := by
  unfold chk
  have hc : sp c = true := by have := dropWhile_head h; simpa [ns] using this
  have hl := dropWhile_length_le ns l
  rw [h, List.length_cons] at hl
  have hl2 := dropWhile_length_le sp (c :: r)
  have hl3 := dropWhile_length_le sp r
  have e : (c :: r).dropWhile sp = r.dropWhile sp := by rw [List.dropWhile_cons, hc]; rfl
  cases hq : l.length with
  | zero => omega
  | succ n =>
    rw [chunks, h]
    show _ :: _ :: chunks n ((c :: r).dropWhile sp) = _
    rw [chunks_fuel n _ _ (by rw [e]; omega) (Nat.le_refl _)]

theorem cnt_eq (p : Nat → Bool) (text : Array Nat) : ∀ (n q : Nat), q + n = text.size → cnt p text n q = ((text.toList.drop q).takeWhile p).length
  | 0, q, h => by
    have : text.toList.drop q = [] := List.drop_of_length_le (by simp; omega)
    rw [this]; rfl
  | n + 1, q, h => by
    have hlt : q < text.toList.length := by simp; omega
    rw [List.drop_eq_getElem_cons hlt, List.takeWhile_cons, cnt]
    have e : text.getD q 0 = text.toList[q] := by
      rw [Array.getD_eq_getD_getElem?, ← Array.getElem?_toList, List.getElem?_eq_getElem hlt]; rfl
    rw [e, cnt_eq p text n (q + 1) (by omega)]
    cases p text.toList[q] <;> rfl

theorem firstSp_eq (text : Array Nat) : ∀ (n q : Nat), q + n = text.size → firstSp text n q = q + ((text.toList.drop q).takeWhile ns).length
  | 0, q, h => by
    have : text.toList.drop q = [] := List.drop_of_length_le (by simp; omega)
    rw [this]; rfl
  | n + 1, q, h => by
    have hlt : q < text.toList.length := by simp; omega
    rw [List.drop_eq_getElem_cons hlt, List.takeWhile_cons, firstSp]
    have e : text.getD q 0 = text.toList[q] := by
      rw [Array.getD_eq_getD_getElem?, ← Array.getElem?_toList, List.getElem?_eq_getElem hlt]; rfl
    rw [e, firstSp_eq text n (q + 1) (by omega)]
    generalize text.toList[q] = c
    show (if sp c = true then q else _) = q + (if (!sp c) = true then c :: List.takeWhile ns (List.drop (q + 1) text.toList) else []).length
    cases hs : sp c with
    | true => rfl
    | false => show q + 1 + _ = q + (_ + 1); omega

theorem cnt_all (text : Array Nat) : cnt sp text text.size 0 = text.size ↔ text.toList.all sp = true := by
  rw [cnt_eq sp text text.size 0 (by omega), List.drop_zero]
  have key : ∀ l : List Nat, (l.takeWhile sp).length = l.length ↔ l.all sp = true := by
    intro l
    induction l with
    | nil => simp
    | cons c r ih =>
      rw [List.takeWhile_cons, List.all_cons]
      cases hs : sp c with
      | true => simp [ih]
      | false => simp
  have := key text.toList
  rw [← this]
  simp

theorem drop_takeWhile (p : Nat → Bool) (l : List Nat) : l.drop (l.takeWhile p).length = l.dropWhile p := by
  have h := List.takeWhile_append_dropWhile (p := p) (l := l)
  conv => lhs; rw [← h]
  have e : ((l.takeWhile p ++ l.dropWhile p).takeWhile p).length = (l.takeWhile p).length := by rw [h]
  rw [e, List.drop_left]
end Mine
end

-- R2
section
set_option maxRecDepth 100000
set_option linter.unusedVariables false
namespace Mine
open PySem PySem.Builtin PySem.Builtin.Re

section
variable {M : Model} {A : Around} {E : Value → Shared → Prop} {s : Shared}

theorem wp_reDrive {Q : Sre.M → Shared → Prop} : ∀ (turns n : Nat) (m : Sre.M), (Sre.M.runFor n m).outcome.isSome = true → n ≤ 4 * turns + 4 → Q (Sre.M.runFor n m) s → wpAny M A (reDrive (turns + 1) m) Q E s := by
  intro turns
  induction turns with
  | zero =>
    intro n m ho hn hq
    have e : Sre.M.runFor 4 m = Sre.M.runFor n m := by
      have : 4 = n + (4 - n) := by omega
      rw [this, runFor_add, runFor_of_some _ ho]
    show wpAny M A (if (Sre.M.runFor 4 m).outcome.isSome then pure (Sre.M.runFor 4 m) else _) Q E s
    rw [e, if_pos ho]
    exact wpAny_pure hq
  | succ turns ih =>
    intro n m ho hn hq
    show wpAny M A (if (Sre.M.runFor 4 m).outcome.isSome then pure (Sre.M.runFor 4 m) else (do rule "sre.turn"; reDrive (turns + 1) (Sre.M.runFor 4 m))) Q E s
    by_cases h4 : (Sre.M.runFor 4 m).outcome.isSome = true
    · rw [if_pos h4]
      have e : Sre.M.runFor n m = Sre.M.runFor 4 m := by
        by_cases hle : n ≤ 4
        · have : 4 = n + (4 - n) := by omega
          rw [this, runFor_add, runFor_of_some _ ho]
        · have : n = 4 + (n - 4) := by omega
          rw [this, runFor_add, runFor_of_some _ h4]
      exact wpAny_pure (e ▸ hq)
    · rw [if_neg h4]
      refine wpAny_bind (wpAny_rule ?_)
      have hgt : ¬ n ≤ 4 := fun hle => h4 (by
        have : 4 = n + (4 - n) := by omega
        rw [this, runFor_add, runFor_of_some _ ho]; exact ho)
      have e : Sre.M.runFor n m = Sre.M.runFor (n - 4) (Sre.M.runFor 4 m) := by rw [← runFor_add]; congr 1; omega
      rw [e] at ho hq
      exact ih (n - 4) _ ho (by omega) hq

theorem wp_reRunToEnd {Q : Option Sre.M → Shared → Prop} {n : Nat} {m : Sre.M} (hn : n ≤ 2 ^ 60)
    (h : ((Sre.M.runFor n m).outcome = some .matched ∧ Q (some (Sre.M.runFor n m)) s) ∨ ((Sre.M.runFor n m).outcome = some .failed ∧ Q none s)) :
    wpAny M A (reRunToEnd m) Q E s := by
  have ho : (Sre.M.runFor n m).outcome.isSome = true := by rcases h with h | h <;> rw [h.1] <;> rfl
  unfold reRunToEnd
  rw [show (2 ^ 64 : Nat) = (2 ^ 64 - 1) + 1 from by decide]
  refine wpAny_bind (wp_reDrive _ n m ho (by omega) ?_)
  generalize Sre.M.runFor n m = m' at h
  refine wpAny_bind (wpAny_forIn_list _ (fun _ _ s' => s' = s) _ ?_ ?_ _ _ rfl)
  · rintro x rest b _ rfl
    show wpAny M A (if m'.seen.has x = true then (do rule (Sre.names.getD x ""); pure (ForInStep.yield PUnit.unit)) else pure (ForInStep.yield PUnit.unit)) _ E _
    split
    · exact wpAny_bind (wpAny_rule (wpAny_pure rfl))
    · exact wpAny_pure rfl
  · rintro b _ rfl
    rcases h with h | h
    · rw [h.1]; exact wpAny_pure h.2
    · rw [h.1]; exact wpAny_pure h.2
end
end Mine
end

-- R3
section
set_option maxRecDepth 100000
set_option linter.unusedVariables false
namespace Mine
open PySem

theorem owner_rePattern : Manifest.owners.lookup (String.ofList ['n', 'r', 'e', 't', 't', 'a', 'P', '.', 'e', 'r'].reverse) = some Manifest.sig_re_Pattern := by kernel_rfl
theorem slot_match : Slot "re.Pattern" "match" "re.Pattern.match" :=
  .of (owner := "re.Pattern") (n := "match") (by rw [typeLookup_type, builtinLookup_eq_fast]; kernel_rfl) (by decide +kernel) (by decide +kernel) (by decide +kernel)
    (by first | exact .inl (by decide +kernel) | exact .inr (by decide +kernel)) (by rw [isSubtype_type]; kernel_rfl)
theorem type_match : typeOf (.builtin "re.Pattern.match") = pure (.type "method_descriptor") := by show builtinType _ = _; rw [builtinType_eq_fast]; kernel_rfl
theorem entry_match : entryFor table "re.Pattern.match" = some Builtin.«re.Pattern.match» := entryFor_of_tree (by kernel_rfl)
theorem slot_split : Slot "re.Pattern" "split" "re.Pattern.split" :=
  .of (owner := "re.Pattern") (n := "split") (by rw [typeLookup_type, builtinLookup_eq_fast]; kernel_rfl) (by decide +kernel) (by decide +kernel) (by decide +kernel)
    (by first | exact .inl (by decide +kernel) | exact .inr (by decide +kernel)) (by rw [isSubtype_type]; kernel_rfl)
theorem type_split : typeOf (.builtin "re.Pattern.split") = pure (.type "method_descriptor") := by show builtinType _ = _; rw [builtinType_eq_fast]; kernel_rfl
theorem entry_split : entryFor table "re.Pattern.split" = some Builtin.«re.Pattern.split» := entryFor_of_tree (by kernel_rfl)
theorem slot_group : Slot "re.Match" "group" "re.Match.group" :=
  .of (owner := "re.Match") (n := "group") (by rw [typeLookup_type, builtinLookup_eq_fast]; kernel_rfl) (by decide +kernel) (by decide +kernel) (by decide +kernel)
    (by first | exact .inl (by decide +kernel) | exact .inr (by decide +kernel)) (by rw [isSubtype_type]; kernel_rfl)
theorem type_group : typeOf (.builtin "re.Match.group") = pure (.type "method_descriptor") := by show builtinType _ = _; rw [builtinType_eq_fast]; kernel_rfl
theorem entry_group : entryFor table "re.Match.group" = some Builtin.«re.Match.group» := entryFor_of_tree (by kernel_rfl)
theorem args_match (a b : Value) : argsOk "re.Pattern.match" ⟨[a, b], []⟩ := by
  unfold argsOk; rw [signature?_of (id := "re.Pattern.match") (n := ['h', 'c', 't', 'a', 'm']) (o := ['n', 'r', 'e', 't', 't', 'a', 'P', '.', 'e', 'r']) (by kernel_rfl) owner_rePattern]; kernel_rfl
theorem args_split (a b : Value) : argsOk "re.Pattern.split" ⟨[a, b], []⟩ := by
  unfold argsOk; rw [signature?_of (id := "re.Pattern.split") (n := ['t', 'i', 'l', 'p', 's']) (o := ['n', 'r', 'e', 't', 't', 'a', 'P', '.', 'e', 'r']) (by kernel_rfl) owner_rePattern]; kernel_rfl
theorem owner_reMatch : Manifest.owners.lookup (String.ofList ['h', 'c', 't', 'a', 'M', '.', 'e', 'r'].reverse) = some Manifest.sig_re_Match := by kernel_rfl
theorem args_group (a : Value) : argsOk "re.Match.group" ⟨[a], []⟩ := by
  unfold argsOk; rw [signature?_of (id := "re.Match.group") (n := ['p', 'u', 'o', 'r', 'g']) (o := ['h', 'c', 't', 'a', 'M', '.', 'e', 'r']) (by kernel_rfl) owner_reMatch]; kernel_rfl
end Mine
end

-- R4
section
set_option maxRecDepth 100000
set_option linter.unusedVariables false
namespace Mine
open PySem PySem.Builtin PySem.Builtin.Re

abbrev patObj (pat fl : Value) (g : Nat) (c : Addr) : Obj := { cls := .type "re.Pattern", data := .fields #[pat, fl, .int g 0, .none, .none, .ref c, .int 0 0] }

section
variable {prog : Program} {w : World} {A : Around} {E : Value → Shared → Prop} {s : Shared} {p c : Addr} {pat fl : Value} {g : Nat} {codeV : Array Value} {n : Nat} {code : Array Nat} {x : Str} {t : Tok}

theorem reNamed3 (id f : String) (v : Value) (a b c : String) : reNamed id f [a, b, c] 1 [v] [] = pure [some v, none, none] := rfl
theorem reNamed2 (id f : String) (v : Value) (a b : String) : reNamed id f [a, b] 1 [v] [] = pure [some v, none] := rfl

theorem wp_reTarget {id f : String} {Q : ReTarget → Shared → Prop} (hp : s.heap.get? p = some (patObj pat fl g c)) (hc : s.heap.get? c = some { cls := .type "tuple", data := .seq codeV n })
    (hcode : (codeV.map reRawOf).map (·.toNat) = code) (hx : x.length ≤ sizeLine)
    (h : Q { pattern := .ref p, string := .str x t, code, text := x.cps, kind := 0, groups := g, pos := 0, lim := x.cps.size } s) :
    wpAny (model prog w) A (reTarget id f ⟨[.ref p, .str x t], []⟩) Q E s := by
  have hl : min ((2 ^ 63 - 1 : Int)).toNat x.cps.size = x.cps.size := by
    have : x.cps.size ≤ 16777216 := hx
    have e : ((2 ^ 63 - 1 : Int)).toNat = 9223372036854775807 := by decide
    rw [e]; omega
  unfold reTarget
  simp only [reNamed3]
  refine wpAny_bind (wpAny_pure ?_)
  refine wpAny_bind (wpAny_pure ?_)
  refine wpAny_bind (wpAny_pure ?_)
  refine wpAny_bind (wpAny_fieldsOf hp rfl ?_)
  refine wpAny_bind (m := reTextOf (.str x t)) (wpAny_pure ?_)
  simp only [reNoCollectionInside]
  refine wpAny_bind (wpAny_pure ?_)
  have hri : ∀ Q' : Array Int → Shared → Prop, Q' (codeV.map reRawOf) s → wpAny (model prog w) A (reRawItems (.ref c)) Q' E s := by
    intro Q' hQ'
    unfold reRawItems seqItems?
    exact wpAny_bind (wpAny_bind (wpAny_load hc (wpAny_pure (wpAny_pure hQ'))))
  refine wpAny_bind (hri _ (wpAny_pure ?_))
  rw [hcode, hl]
  have e0 : Min.min (Int.toNat 0) x.cps.size = 0 := by simp
  rw [e0]
  exact h

theorem wp_reAnswer_no {tg : ReTarget} {m : Sre.M} {k : Nat} {Q : Fin → Shared → Prop} (hk : k ≤ 2 ^ 60) (ho : (Sre.M.runFor k m).outcome = some .failed) (h : Q (.done (.ret .none)) s) :
    wpAny (model prog w) A (reAnswer tg m) Q E s := by
  unfold reAnswer
  exact wpAny_bind (wp_reRunToEnd hk (.inr ⟨ho, wpAny_pure h⟩))

/-- the object of a match -/
abbrev matObj (string pattern : Value) (pos lim : Nat) (li : Int) (tp : Addr) : Obj := { cls := .type "re.Match", data := .fields #[string, pattern, .int pos 0, .int lim 0, .int li 0, .ref tp] }

theorem wp_newTuple {vs : List Value} {Q : Value → Shared → Prop} (hsz : vs.length ≤ sizeLine) (h : Q (.ref s.heap.objs.size) { s with heap := s.heap.push { cls := .type "tuple", data := .seq vs.toArray } }) : wpAny (model prog w) A (newTuple vs) Q E s :=
  wpAny_newObj_type h (by show vs.toArray.size ≤ sizeLine; rw [List.size_toArray]; exact hsz)
theorem wp_newFields {ty : String} {vs : List Value} {Q : Value → Shared → Prop} (hsz : vs.length ≤ 1000) (h : Q (.ref s.heap.objs.size) { s with heap := s.heap.push { cls := .type ty, data := .fields vs.toArray } }) : wpAny (model prog w) A (newFields ty vs) Q E s :=
  wpAny_newObj_type h (by show vs.toArray.size ≤ sizeLine + 2; rw [List.size_toArray, sizeLine_eq]; omega)

/-- a match without groups -/
theorem wp_reAnswer0 {tg : ReTarget} {m : Sre.M} {k : Nat} {Q : Fin → Shared → Prop} (hg : tg.groups = 0) (hk : k ≤ 2 ^ 60) (ho : (Sre.M.runFor k m).outcome = some .matched)
    (h : ∀ a h', (∀ b o, s.heap.get? b = some o → h'.get? b = some o) → Q (.done (.ret (.ref a))) { s with heap := h' }) :
    wpAny (model prog w) A (reAnswer tg m) Q E s := by
  unfold reAnswer
  refine wpAny_bind (wp_reRunToEnd hk (.inl ⟨ho, ?_⟩))
  refine wpAny_bind ?_
  rw [hg]
  unfold reNewMatch
  simp only [List.range_zero, List.flatMap_nil, List.any_nil, Bool.false_eq_true, if_false]
  refine wpAny_bind (wp_newTuple (by show 2 ≤ sizeLine; rw [sizeLine_eq]; omega) ?_)
  refine wp_newFields (by show 6 ≤ 1000; omega) ?_
  exact wpAny_pure (h _ _ fun b o e => Heap.get?_push_of_some _ (Heap.get?_push_of_some _ e))

/-- a match with one group -/
theorem wp_reAnswer1 {tg : ReTarget} {m : Sre.M} {k : Nat} {b e st hd : Nat} {li : Int} {Q : Fin → Shared → Prop} (hg : tg.groups = 1) (hk : k ≤ 2 ^ 60) (ho : (Sre.M.runFor k m).outcome = some .matched)
    (hm : (Sre.M.runFor k m).marks = #[some b, some e]) (hl : (Sre.M.runFor k m).lastmark = 1) (hli : (Sre.M.runFor k m).lastindex = li) (hbe : b ≤ e) (hst : (Sre.M.runFor k m).start = st) (hhd : (Sre.M.runFor k m).handed = hd)
    (h : ∀ a tp h', (∀ b o, s.heap.get? b = some o → h'.get? b = some o) → h'.get? a = some (matObj tg.string tg.pattern tg.pos tg.lim li tp) →
      h'.get? tp = some { cls := .type "tuple", data := .seq #[.int st 0, .int hd 0, .int b 0, .int e 0] } → Q (.done (.ret (.ref a))) { s with heap := h' }) :
    wpAny (model prog w) A (reAnswer tg m) Q E s := by
  unfold reAnswer
  refine wpAny_bind (wp_reRunToEnd hk (.inl ⟨ho, ?_⟩))
  generalize Sre.M.runFor k m = m' at hm hl hst hhd hli
  obtain ⟨c0, text, lim, start, ls, wt, ma, pc, pos, handed, om, marks, lm, li', loops, inner, frames, weight, ans, sn, out⟩ := m'
  simp only at hm hl hst hhd hli
  subst hm hl hst hhd hli
  refine wpAny_bind ?_
  rw [hg]
  unfold reNewMatch
  have e1 : (decide (e < b)) = false := decide_eq_false (by omega)
  simp only [List.range_succ, List.range_zero, List.nil_append, List.flatMap_cons, List.flatMap_nil, List.any_cons, List.any_nil]
  simp only [Bool.or_false]
  rw [if_neg (by show ¬ ((decide _ && decide (e < b)) = true); rw [e1, Bool.and_false]; exact Bool.false_ne_true)]
  refine wpAny_bind (wp_newTuple (by show 4 ≤ sizeLine; rw [sizeLine_eq]; omega) ?_)
  refine wp_newFields (by show 6 ≤ 1000; omega) ?_
  exact wpAny_pure (h _ s.heap.objs.size _ (fun b o e => Heap.get?_push_of_some _ (Heap.get?_push_of_some _ e)) (Heap.get?_push_size _ rfl) (Heap.get?_push_of_some _ (Heap.get?_push_size _ rfl)))

theorem wp_group {a tp : Addr} {pt : Value} {ps lm st hd : Nat} {li : Int} {g1 g2 : Value} {Q : Value → Shared → Prop} (hx : x.length ≤ sizeLine)
    (hm : s.heap.get? a = some (matObj (.str x t) pt ps lm li tp)) (ht : s.heap.get? tp = some { cls := .type "tuple", data := .seq #[.int st 0, .int hd 0, g1, g2] })
    (h : Q (.str ⟨x.cps.extract st hd⟩ s.toks) { s with toks := s.toks + 1 }) :
    wpAny (model prog w) A (call (.builtin "re.Match.group") [.ref a]) Q E s := by
  refine wpAny_call_entry slot_group ⟨_, hm, rfl⟩ entry_group ?_ (args_group _)
  unfold Builtin.«re.Match.group»
  refine wpAny_bind (m := noKeywords _ _) (wpAny_pure ?_)
  show wpAny _ _ (do let x ← reFound (.ref a); let v ← reGroupText x 0 .none; ret v) _ _ _
  have hri : ∀ Q' : Array Int → Shared → Prop, Q' #[reRawOf (Value.int (st : Int) 0), reRawOf (Value.int (hd : Int) 0), reRawOf g1, reRawOf g2] s → wpAny (model prog w) A.in1 (reRawItems (.ref tp)) Q' E s := by
    intro Q' hQ'
    unfold reRawItems seqItems?
    exact wpAny_bind (wpAny_bind (wpAny_load ht (wpAny_pure (wpAny_pure (by simpa using hQ')))))
  unfold reFound
  refine wpAny_bind (wpAny_bind (wpAny_fieldsOf hm rfl (wpAny_bind (hri _ (wpAny_pure ?_)))))
  unfold reGroupText
  have e1 : (decide ((st : Int) < 0) || decide ((hd : Int) < 0)) = false := by
    rw [decide_eq_false (by omega), decide_eq_false (by omega)]; rfl
  show wpAny _ _ (do let v ← (if (decide ((st : Int) < 0) || decide ((hd : Int) < 0)) = true then pure Value.none else (do let (text, kind) ← reTextOf (.str x t); reSlice text kind (st : Int).toNat (hd : Int).toNat)); ret v) _ _ _
  rw [e1, if_neg Bool.false_ne_true]
  refine wpAny_bind (wpAny_bind (m := reTextOf (.str x t)) (wpAny_pure ?_))
  show wpAny _ _ (mkStr ⟨x.cps.extract st hd⟩) _ _ _
  refine wpAny_mkStr (wpAny_pure ⟨_, rfl, h⟩) ?_
  have : (x.cps.extract st hd).size ≤ x.cps.size := by rw [Array.size_extract]; omega
  exact Nat.le_trans this hx

theorem wp_match2 {Q : Value → Shared → Prop} (hp : s.heap.get? p = some (patObj pat fl 0 c)) (hc : s.heap.get? c = some { cls := .type "tuple", data := .seq codeV n })
    (hcode : (codeV.map reRawOf).map (·.toNat) = code2) (hx : x.length ≤ sizeLine) (hno : ∀ q, x.cps.getD q 0 ≠ 10)
    (h : cnt Unicode.isSpace x.cps x.cps.size 0 = x.cps.size → ∀ a h', (∀ b o, s.heap.get? b = some o → h'.get? b = some o) → Q (.ref a) { s with heap := h' })
    (h2 : cnt Unicode.isSpace x.cps x.cps.size 0 ≠ x.cps.size → Q .none s) :
    wpAny (model prog w) A (call (.builtin "re.Pattern.match") [.ref p, .str x t]) Q E s := by
  refine wpAny_call_entry slot_match ⟨_, hp, rfl⟩ entry_match ?_ (args_match _ _)
  unfold Builtin.«re.Pattern.match»
  refine wpAny_bind (wp_reTarget hp hc hcode hx ?_)
  have hs : x.cps.size ≤ 16777216 := hx
  have hk9 : 2 * x.cps.size + 10 ≤ 2 ^ 60 := by
    have : 2 * x.cps.size + 10 ≤ 100000000 := by omega
    exact Nat.le_trans this (by decide)
  obtain ⟨k, m', hk, hr, ho⟩ := m2_spec x.cps (by omega) hno
  have hk' := Nat.le_trans hk hk9
  clear hk hk9 hs
  subst hr
  rcases ho with ⟨hq, ho⟩ | ⟨hq, ho⟩
  · refine wp_reAnswer0 (k := k) ?_ ?_ ?_ ?_
    · rfl
    · exact hk'
    · exact ho
    · exact (fun a h' hk => ⟨_, rfl, h hq a h' hk⟩)
  · refine wp_reAnswer_no (k := k) ?_ ?_ ?_
    · exact hk'
    · exact ho
    · exact ⟨_, rfl, h2 hq⟩

theorem wp_match3 {Q : Value → Shared → Prop} (hp : s.heap.get? p = some (patObj pat fl 1 c)) (hc : s.heap.get? c = some { cls := .type "tuple", data := .seq codeV n })
    (hcode : (codeV.map reRawOf).map (·.toNat) = code3) (hx : x.length ≤ sizeLine)
    (h : ∀ a tp h' g1 g2, (∀ b o, s.heap.get? b = some o → h'.get? b = some o) → h'.get? a = some (matObj (.str x t) (.ref p) 0 x.cps.size 1 tp) →
      h'.get? tp = some { cls := .type "tuple", data := .seq #[.int (0 : Nat) 0, .int (cnt isInd x.cps x.cps.size 0 : Nat) 0, g1, g2] } → Q (.ref a) { s with heap := h' }) :
    wpAny (model prog w) A (call (.builtin "re.Pattern.match") [.ref p, .str x t]) Q E s := by
  refine wpAny_call_entry slot_match ⟨_, hp, rfl⟩ entry_match ?_ (args_match _ _)
  unfold Builtin.«re.Pattern.match»
  refine wpAny_bind (wp_reTarget hp hc hcode hx ?_)
  have hs : x.cps.size ≤ 16777216 := hx
  obtain ⟨m', hr, ho, h1, h2, h3, h4, h5⟩ := m3_spec x.cps (by omega)
  subst hr
  refine wp_reAnswer1 (k := 7) (b := 0) (e := cnt isInd x.cps x.cps.size 0) (st := 0) (hd := cnt isInd x.cps x.cps.size 0) (li := 1) ?_ ?_ ?_ ?_ ?_ ?_ ?_ ?_ ?_ ?_
  · rfl
  · decide
  · exact ho
  · exact h3
  · exact h4
  · exact h5
  · exact Nat.zero_le _
  · exact h1
  · exact h2
  · exact (fun a tp h' hk e1 e2 => ⟨_, rfl, h a tp h' _ _ hk e1 e2⟩)
end
end Mine
end

-- R5
section
set_option maxRecDepth 100000
set_option linter.unusedVariables false
namespace Mine
open PySem PySem.Builtin PySem.Builtin.Re PyProof.Rows

section
variable {prog : Program} {w : World} {A : Around} {E : Value → Shared → Prop} {s : Shared} {p c : Addr} {pat fl : Value} {g : Nat} {codeV : Array Value} {n : Nat} {code : Array Nat} {x : Str} {t : Tok}

theorem wp_reWholeTarget {Q : ReTarget → Shared → Prop} (hp : s.heap.get? p = some (patObj pat fl g c)) (hc : s.heap.get? c = some { cls := .type "tuple", data := .seq codeV n })
    (hcode : (codeV.map reRawOf).map (·.toNat) = code)
    (h : Q { pattern := .ref p, string := .str x t, code, text := x.cps, kind := 0, groups := g, pos := 0, lim := x.cps.size } s) :
    wpAny (model prog w) A (reWholeTarget (.ref p) (.str x t)) Q E s := by
  unfold reWholeTarget
  refine wpAny_bind (wpAny_fieldsOf hp rfl ?_)
  refine wpAny_bind (m := reTextOf (.str x t)) (wpAny_pure ?_)
  simp only [reNoCollectionInside]
  refine wpAny_bind (wpAny_pure ?_)
  have hri : ∀ Q' : Array Int → Shared → Prop, Q' (codeV.map reRawOf) s → wpAny (model prog w) A (reRawItems (.ref c)) Q' E s := by
    intro Q' hQ'
    unfold reRawItems seqItems?
    exact wpAny_bind (wpAny_bind (wpAny_load hc (wpAny_pure (wpAny_pure hQ'))))
  refine wpAny_bind (hri _ (wpAny_pure ?_))
  rw [hcode]
  exact h


theorem StrsAre.snoc {vs : List Value} {ts : List Str} (h : StrsAre vs ts) (x : Str) (t : Tok) : StrsAre (vs ++ [.str x t]) (ts ++ [x]) := by
  induction h with
  | nil => exact .cons _ _ .nil
  | cons m t _ ih => exact .cons _ _ ih

abbrev S (l : List Nat) : Str := ⟨l.toArray⟩

theorem extract_S (a : Array Nat) (b e : Nat) : (⟨a.extract b e⟩ : Str) = S ((a.toList.drop b).take (e - b)) := by
  show (⟨_⟩ : Str) = ⟨_⟩
  congr 1
  rw [← Array.toArray_toList (xs := a.extract b e), Array.toList_extract]

theorem chk_len : ∀ (n : Nat) (l : List Nat), l.length ≤ n → (chk l).length ≤ 2 * l.length + 1 := by
  intro n
  induction n with
  | zero =>
    intro l h
    have : l = [] := List.length_eq_zero_iff.mp (by omega)
    subst this; exact Nat.le_refl _
  | succ n ih =>
    intro l h
    cases hd : l.dropWhile ns with
    | nil => rw [chk_nil hd]; simp
    | cons c r =>
      rw [chk_cons hd, List.length_cons, List.length_cons]
      have hc : sp c = true := by have := dropWhile_head hd; simpa [ns] using this
      have hl := dropWhile_length_le ns l
      rw [hd, List.length_cons] at hl
      have e : (c :: r).dropWhile sp = r.dropWhile sp := by rw [List.dropWhile_cons, hc]; rfl
      have hl2 := dropWhile_length_le sp r
      rw [e]
      have := ih (r.dropWhile sp) (by omega)
      omega

theorem wp_reSlice {text : Array Nat} {b e : Nat} {Q : Value → Shared → Prop} (hx : text.size ≤ sizeLine) (h : Q (.str ⟨text.extract b e⟩ s.toks) { s with toks := s.toks + 1 }) :
    wpAny (model prog w) A (reSlice text 0 b e) Q E s := by
  show wpAny _ _ (mkStr ⟨text.extract b e⟩) _ _ _
  refine wpAny_mkStr h ?_
  have : (text.extract b e).size ≤ text.size := by rw [Array.size_extract]; omega
  exact Nat.le_trans this hx

theorem wp_split {Q : Value → Shared → Prop} (hp : s.heap.get? p = some (patObj pat fl 1 c)) (hc : s.heap.get? c = some { cls := .type "tuple", data := .seq codeV n })
    (hcode : (codeV.map reRawOf).map (·.toNat) = code1) (hx : x.length ≤ 1000000)
    (h : ∀ vs tk, StrsAre vs ((chk x.cps.toList).map S) → Q (.ref s.heap.objs.size) { s with heap := s.heap.push { cls := .type "list", data := .seq vs.toArray }, toks := tk }) :
    wpAny (model prog w) A (call (.builtin "re.Pattern.split") [.ref p, .str x t]) Q E s := by
  refine wpAny_call_entry slot_split ⟨_, hp, rfl⟩ entry_split ?_ (args_split _ _)
  unfold Builtin.«re.Pattern.split»
  simp only [reNamed2]
  refine wpAny_bind (wpAny_pure ?_)
  refine wpAny_bind (wpAny_pure ?_)
  refine wpAny_bind (wp_reWholeTarget hp hc hcode ?_)
  refine wpAny_bind ?_
  dsimp only
  have hsz : x.cps.size ≤ 1000000 := hx
  have hsl : x.cps.size ≤ sizeLine := by rw [sizeLine_eq]; omega
  have hLl : x.cps.toList.length = x.cps.size := by simp
  refine wpAny_forIn_list _ (fun rest st s' => ∃ tk ts, s' = { s with toks := tk } ∧ StrsAre st.1.toList ts ∧ st.2.1 = st.2.2.1 ∧ st.2.2.1 ≤ x.cps.size ∧ st.2.2.2.1 = false ∧
    ((st.2.2.2.2.2 = false ∧ ts ++ (chk (x.cps.toList.drop st.2.2.1)).map S = (chk x.cps.toList).map S ∧ x.cps.size - st.2.2.1 + 1 ≤ rest.length) ∨
     (st.2.2.2.2.2 = true ∧ ts ++ [S (x.cps.toList.drop st.2.2.1)] = (chk x.cps.toList).map S))) _ ?_ ?_ _ _ ?_
  · rintro j rest ⟨out, start, last, must, k, over⟩ s' ⟨tk, ts, rfl, hts, hst, hle, hmust, hcase⟩
    dsimp only at hts hst hle hmust hcase
    subst hst hmust
    rcases hcase with ⟨rfl, hT, hrest⟩ | ⟨rfl, hT⟩
    · show wpAny _ _ (do let r ← reNextFound _ start false; _) _ _ _
      refine wpAny_bind ?_
      unfold reNextFound
      obtain ⟨k9, m', hk, hr, ho⟩ := m1_spec x.cps (by omega) start hle _ _ rfl rfl
      have hk' : k9 ≤ 2 ^ 60 := by
        have : k9 ≤ 100000000 := by omega
        exact Nat.le_trans this (by decide)
      clear hk
      rw [firstSp_eq x.cps (x.cps.size - start) start (by omega)] at ho
      subst hr
      rcases ho with ⟨hq, ho, h1, h2, h3, h4⟩ | ⟨hq, ho⟩
      · refine wp_reRunToEnd (n := k9) hk' (.inl ⟨?_, ?_⟩)
        · exact ho
        have hdq := drop_takeWhile ns (x.cps.toList.drop start)
        rw [List.drop_drop] at hdq
        generalize hqq : start + (List.takeWhile ns (List.drop start x.cps.toList)).length = q at *
        have hce := cnt_eq sp x.cps (x.cps.size - q) q (by omega)
        have hde := drop_takeWhile sp (x.cps.toList.drop q)
        rw [List.drop_drop, ← hce] at hde
        have hne : x.cps.toList.drop q ≠ [] := fun e => by
          have := congrArg List.length e
          rw [List.length_drop] at this
          simp at this; omega
        obtain ⟨cc, rr, hcr⟩ := List.exists_cons_of_ne_nil hne
        have hchk := chk_cons (hdq.symm.trans hcr)
        rw [← hcr] at hchk
        have hpos : 0 < cnt sp x.cps (x.cps.size - q) q := by
          rw [hce, hcr, List.takeWhile_cons]
          have hsp : sp cc = true := by have := dropWhile_head (hdq.symm.trans hcr); simpa [ns] using this
          rw [hsp]; simp
        have hcle := cnt_le sp x.cps (x.cps.size - q) q
        rw [← hde] at hchk
        have hw1 : List.takeWhile sp (x.cps.toList.drop q) = (x.cps.toList.drop q).take (cnt sp x.cps (x.cps.size - q) q) := by
          rw [hce]
          conv => rhs; rw [← List.takeWhile_append_dropWhile (p := sp) (l := x.cps.toList.drop q)]
          have e9 : ((x.cps.toList.drop q).takeWhile sp ++ (x.cps.toList.drop q).dropWhile sp).takeWhile sp = (x.cps.toList.drop q).takeWhile sp := by rw [List.takeWhile_append_dropWhile]
          rw [e9, List.take_left]
        have hw0 : List.takeWhile ns (x.cps.toList.drop start) = (x.cps.toList.drop start).take (q - start) := by
          have e8 : q - start = (List.takeWhile ns (List.drop start x.cps.toList)).length := by omega
          rw [e8]
          conv => rhs; rw [← List.takeWhile_append_dropWhile (p := ns) (l := x.cps.toList.drop start)]
          have e9 : ((x.cps.toList.drop start).takeWhile ns ++ (x.cps.toList.drop start).dropWhile ns).takeWhile ns = (x.cps.toList.drop start).takeWhile ns := by rw [List.takeWhile_append_dropWhile]
          rw [e9, List.take_left]
        generalize hcc : cnt sp x.cps (x.cps.size - q) q = ln at *
        dsimp only
        rw [h1, h2]
        refine wpAny_bind (wp_reSlice hsl ?_)
        refine wpAny_bind ?_
        show wpAny _ _ (forIn [0] _ _) _ _ _
        rw [List.forIn_cons]
        refine wpAny_bind (wpAny_bind ?_)
        unfold reMachineGroup
        rw [h3, h4]
        rw [if_neg (by decide)]
        show wpAny _ _ (if q + ln < q then reWrongSpan else reSlice x.cps 0 q (q + ln)) _ _ _
        rw [if_neg (by omega)]
        refine wp_reSlice hsl (wpAny_pure ?_)
        dsimp only
        rw [List.forIn_nil]
        refine wpAny_pure (wpAny_pure ?_)
        refine ⟨tk + 1 + 1, ts ++ [S (List.takeWhile ns (x.cps.toList.drop start))] ++ [S (List.takeWhile sp (x.cps.toList.drop q))], rfl, ?_, rfl, ?_, ?_, .inl ⟨rfl, ?_, ?_⟩⟩
        · rw [Array.toList_push, Array.toList_push, extract_S, extract_S, hw0, hw1]
          have : q + ln - q = ln := by omega
          rw [this]
          exact StrsAre.snoc (StrsAre.snoc hts _ _) _ _
        · show q + ln ≤ _; omega
        · show (q + ln == q) = false
          exact beq_eq_false_iff_ne.mpr (by omega)
        · dsimp only
          rw [← hT, hchk, List.append_assoc, List.append_assoc]
          rfl
        · show x.cps.size - (q + ln) + 1 ≤ rest.length
          rw [List.length_cons] at hrest
          omega
      · refine wp_reRunToEnd (n := k9) hk' (.inr ⟨?_, ?_⟩)
        · exact ho
        dsimp only
        refine wpAny_pure ⟨tk, ts, rfl, hts, rfl, hle, rfl, .inr ⟨rfl, ?_⟩⟩
        dsimp only
        rw [← hT]
        have hd : (x.cps.toList.drop start).dropWhile ns = [] := by
          have := drop_takeWhile ns (x.cps.toList.drop start)
          rw [← this]
          refine List.drop_of_length_le ?_
          rw [List.length_drop]; omega
        rw [chk_nil hd]; rfl
    · refine wpAny_pure ⟨tk, ts, rfl, hts, rfl, hle, rfl, .inr ⟨rfl, hT⟩⟩
  · rintro ⟨out, start, last, must, k, over⟩ s' ⟨tk, ts, rfl, hts, hst, hle, hmust, hcase⟩
    dsimp only at hts hst hle hmust hcase
    rcases hcase with ⟨_, _, hr⟩ | ⟨rfl, hT⟩
    · simp at hr
    · show wpAny _ _ (do let r ← reSlice x.cps 0 last x.cps.size; _) _ _ _
      refine wpAny_bind (wp_reSlice hsl ?_)
      dsimp only
      have hlen := chk_len _ x.cps.toList (Nat.le_refl _)
      have hts' := StrsAre.snoc hts ⟨x.cps.extract last x.cps.size⟩ tk
      rw [extract_S, List.take_of_length_le (by rw [List.length_drop]; omega), hT] at hts'
      have hsz2 : (out.push (Value.str ⟨x.cps.extract last x.cps.size⟩ tk)).toList.length ≤ sizeLine := by
        rw [Array.toList_push, extract_S, List.take_of_length_le (by rw [List.length_drop]; omega)]
        rw [hts'.length, List.length_map, sizeLine_eq]; omega
      refine wpAny_bind (wpAny_newObj_type ?_ (by show (List.toArray _).size ≤ sizeLine; rw [List.size_toArray]; exact hsz2))
      refine wpAny_pure ⟨_, rfl, h _ _ ?_⟩
      rw [Array.toList_push, extract_S, List.take_of_length_le (by rw [List.length_drop]; omega)]
      exact hts'
  · refine ⟨s.toks, [], rfl, .nil, rfl, Nat.zero_le _, rfl, .inl ⟨rfl, by simp, ?_⟩⟩
    show x.cps.size - 0 + 1 ≤ (List.range (2 * x.cps.size + 3)).length
    rw [List.length_range]; omega
end
end Mine
end

-- R6
section
set_option maxRecDepth 100000
set_option linter.unusedVariables false
namespace Mine
open PySem PySem.Builtin PySem.Builtin.Str PyProof.Rows

def xtab : Nat → List Nat → List Nat
  | _, [] => []
  | col, c :: r => if c = 9 then List.replicate (8 - col % 8) 32 ++ xtab (col + (8 - col % 8)) r else c :: xtab (if c = 10 ∨ c = 13 then 0 else col + 1) r

theorem xtab_none : ∀ (l : List Nat) (col : Nat), 9 ∉ l → xtab col l = l
  | [], _, _ => rfl
  | c :: r, col, h => by
    have hc : c ≠ 9 := fun e => h (by rw [e]; exact List.mem_cons_self)
    rw [xtab, if_neg hc, xtab_none r _ (fun e => h (List.mem_cons_of_mem _ e))]

theorem xtab_len : ∀ (l : List Nat) (col : Nat), (xtab col l).length ≤ 8 * l.length
  | [], _ => Nat.le_refl _
  | c :: r, col => by
    rw [xtab]
    split
    · have := xtab_len r (col + (8 - col % 8))
      rw [List.length_append, List.length_replicate, List.length_cons]; omega
    · have := xtab_len r (if c = 10 ∨ c = 13 then 0 else col + 1)
      rw [List.length_cons, List.length_cons]; omega

section
variable {prog : Program} {w : World} {A : Around} {E : Value → Shared → Prop} {s : Shared} {x : Str} {t u : Tok}

theorem wp_xloop {Q : Array Nat × Nat → Shared → Prop} : ∀ (l : List Nat) (out : Array Nat) (col : Nat), out.size + 8 * l.length ≤ sizeLine →
    (∀ col', Q (⟨out.toList ++ xtab col l⟩, col') s) →
    wpAny (model prog w) A (forIn l (out, col) fun c __s =>
      if (c == 9) = true then
        if tooLong (__s.fst.size + if (8 : Int) > 0 then (8 : Int).toNat - __s.snd % (8 : Int).toNat else 0) = true then do
          unsupported "str.expandtabs:memory"
          pure (ForInStep.yield (__s.fst ++ Array.replicate (if (8 : Int) > 0 then (8 : Int).toNat - __s.snd % (8 : Int).toNat else 0) 32, __s.snd + if (8 : Int) > 0 then (8 : Int).toNat - __s.snd % (8 : Int).toNat else 0))
        else pure (ForInStep.yield (__s.fst ++ Array.replicate (if (8 : Int) > 0 then (8 : Int).toNat - __s.snd % (8 : Int).toNat else 0) 32, __s.snd + if (8 : Int) > 0 then (8 : Int).toNat - __s.snd % (8 : Int).toNat else 0))
      else pure (ForInStep.yield (__s.fst.push c, if (c == 10 || c == 13) = true then 0 else __s.snd + 1))) Q E s := by
  intro l
  induction l with
  | nil =>
    intro out col _ h
    rw [List.forIn_nil]
    refine wpAny_pure ?_
    have := h col
    simpa [xtab] using this
  | cons c r ih =>
    intro out col hsz h
    rw [List.forIn_cons]
    rw [List.length_cons] at hsz
    have hb : (if (8 : Int) > 0 then (8 : Int).toNat - col % (8 : Int).toNat else 0) = 8 - col % 8 := rfl
    refine wpAny_bind ?_
    dsimp only
    rw [hb]
    by_cases hc : c = 9
    · subst hc
      rw [if_pos (show ((9 : Nat) == 9) = true from rfl)]
      have hl : tooLong (out.size + (8 - col % 8)) = false := by
        show decide (_ > sizeLine) = false
        exact decide_eq_false (by omega)
      rw [hl, if_neg Bool.false_ne_true]
      refine wpAny_pure ?_
      dsimp only
      refine ih _ _ ?_ ?_
      · rw [Array.size_append, Array.size_replicate]; omega
      · intro col'
        have := h col'
        rw [xtab, if_pos rfl] at this
        simpa [List.append_assoc] using this
    · have e : (c == 9) = false := beq_eq_false_iff_ne.mpr hc
      rw [e, if_neg Bool.false_ne_true]
      refine wpAny_pure ?_
      dsimp only
      refine ih _ _ ?_ ?_
      · rw [Array.size_push]; omega
      · intro col'
        have := h col'
        rw [xtab, if_neg hc] at this
        have e2 : (if (c == 10 || c == 13) = true then 0 else col + 1) = if c = 10 ∨ c = 13 then 0 else col + 1 := by
          by_cases h1 : c = 10 <;> by_cases h2 : c = 13 <;> simp [h1, h2]
        rw [e2]
        simpa [List.append_assoc] using this

theorem wp_xbody {Q : PySem.Fin → Shared → Prop} (hx : x.length ≤ 1000000) (h : ∀ t' k, Q (.done (.ret (.str (S (xtab 0 x.cps.toList)) t'))) { s with toks := k }) :
    wpAny (model prog w) A (do
      if !x.cps.contains 9 then rule "str.expandtabs.no-tab"; return ← ret (← strUnchanged (.str x t) x)
      let mut out : Array Nat := #[]
      let mut column := 0
      for c in x.cps do
        if c == 9 then
          let blanks := if (8 : Int) > 0 then (8 : Int).toNat - column % (8 : Int).toNat else 0
          if tooLong (out.size + blanks) then unsupported "str.expandtabs:memory"
          out := out ++ Array.replicate blanks 32
          column := column + blanks
        else
          out := out.push c
          column := if c == 10 || c == 13 then 0 else column + 1
      retStr ⟨out⟩) Q E s := by
  have hsz : x.cps.size ≤ 1000000 := hx
  by_cases hc : x.cps.contains 9 = true
  · have e : (!x.cps.contains 9) = false := by rw [hc]; rfl
    rw [if_neg (by rw [e]; exact Bool.false_ne_true)]
    refine wpAny_bind ?_
    rw [← Array.forIn_toList]
    refine wp_xloop _ _ _ ?_ ?_
    · simp [sizeLine_eq]; omega
    · intro col'
      dsimp only
      refine wpAny_bind (wpAny_mkStr (wpAny_pure ?_) ?_)
      · have e1 : (⟨(#[] : Array Nat).toList ++ xtab 0 x.cps.toList⟩ : Array Nat) = (xtab 0 x.cps.toList).toArray := by simp
        rw [e1]; exact h _ _
      · show (⟨(#[] : Array Nat).toList ++ xtab 0 x.cps.toList⟩ : Array Nat).size ≤ sizeLine
        have := xtab_len x.cps.toList 0
        have e2 : x.cps.toList.length = x.cps.size := by simp
        have e1 : (⟨(#[] : Array Nat).toList ++ xtab 0 x.cps.toList⟩ : Array Nat).size = (xtab 0 x.cps.toList).length := by simp
        rw [e1, sizeLine_eq]; omega
  · have e : (!x.cps.contains 9) = true := by simpa using hc
    rw [if_pos e]
    refine wpAny_bind (wpAny_rule ?_)
    show wpAny _ _ (do let v ← (pure (.str x t) : Sem Value); ret v) _ _ _
    refine wpAny_bind (wpAny_pure (wpAny_pure ?_))
    have hn : 9 ∉ x.cps.toList := fun hm => hc (by rw [Array.contains_iff_mem]; exact Array.mem_def.mpr hm)
    have := h t s.toks
    rw [xtab_none _ _ hn] at this
    exact this

theorem wp_expandtabs0 {Q : Value → Shared → Prop} (hx : x.length ≤ 1000000) (h : ∀ t' k, Q (.str (S (xtab 0 x.cps.toList)) t') { s with toks := k }) :
    wpAny (model prog w) A (call (.builtin "str.expandtabs") [.str x t]) Q E s := by
  refine wpAny_call_entry F.slot_str_expandtabs (typeIs_str _ _ _) F.entry_str_expandtabs ?_ (F.args_str_expandtabs_1 _)
  exact wp_xbody hx (fun t' k => ⟨_, rfl, h t' k⟩)
theorem wp_expandtabs8 {Q : Value → Shared → Prop} (hx : x.length ≤ 1000000) (h : ∀ t' k, Q (.str (S (xtab 0 x.cps.toList)) t') { s with toks := k }) :
    wpAny (model prog w) A (call (.builtin "str.expandtabs") [.str x t, .int 8 u]) Q E s := by
  refine wpAny_call_entry F.slot_str_expandtabs (typeIs_str _ _ _) F.entry_str_expandtabs ?_ (F.args_str_expandtabs_2 _ _)
  exact wp_xbody hx (fun t' k => ⟨_, rfl, h t' k⟩)
end
end Mine
end

-- W1
section
set_option maxRecDepth 100000
set_option linter.unusedVariables false
set_option Elab.async false
namespace Mine
open PySem PySem.W PyProof.Rows PySem.Calls

noncomputable section
/-- the written part -/
abbrev KK (w : World) : Frag := hd.heap_39 w.params
abbrev TR (mg mb : Str → Option Value) (h : Heap) : Prop := TopRead hd.view_39 (looseW hd.view_39 [Str.ofString "_twin_re_1", Str.ofString "_twin_re_2", Str.ofString "_twin_re_3"]) mg mb h

structure Gd (w : World) (mg mb : Str → Option Value) (h : Heap) : Prop where
  X : (KK w).In h
  T : TR mg mb h
theorem Gd.keeps {w : World} {mg mb : Str → Option Value} {h h' : Heap} (G : Gd w mg mb h) (k : ∀ b o, h.get? b = some o → h'.get? b = some o) : Gd w mg mb h' := ⟨G.X.keeps k, G.T.keeps k⟩

def fdF (P : Params) (f : Addr) : FuncData := match (hd.heap_39 P).lookup f with
  | some ⟨_, _, .func fd, _⟩ => fd
  | _ => default
def bodyF (P : Params) (f : Addr) : List Stmt := match (fdF P f).body with
  | .stmts b => b
  | _ => []
abbrev envF (P : Params) (f L : Addr) : Env := callEnv (fdF P f) L f

section
variable {prog : Program} {w : World} {A : Around} {E : Value → Shared → Prop} {s : Shared} {mg mb : Str → Option Value}

theorem call_fn {f : Addr} {oc : Value} {od : Option Addr} {osl : Array (Option Value)} {args : List Value} {binds : List (Str × Value)} {Q : Value → Shared → Prop}
    (G : Gd w mg mb s.heap) (hroom : A.depth < recursionLimit) 
    (hbind : bindArgs (fdF w.params f) ⟨args, []⟩ = pure binds)
    (ho : (KK w).lookup f = some ⟨oc, od, .func (fdF w.params f), osl⟩) (hb : (fdF w.params f).body = .stmts (bodyF w.params f)) (hcd : codeIn (KK w) (fdF w.params f).code (fdF w.params f).qualname = true)
    (hloc : (binds.all fun x => decide ((fdF w.params f).scope.names.lookup x.1 = some .local)) = true)
    (hcell : ((fdF w.params f).scope.names.all fun x => decide (x.2 ≠ .cell)) = true)
    (hco : (fdF w.params f).scope.isCoroutine = false) (hgen : (fdF w.params f).scope.isGenerator = false) (hk : (fdF w.params f).scope.kind = .function)
    (h : ∀ L h₁ tk, Fr s.heap L h₁ (fun y => binds.reverse.lookup y) → Gd w mg mb h₁ →
      wpAny (model prog w) (A.deeper (envF w.params f L)) (execs (bodyF w.params f) (envF w.params f L)) (fun fl s' => Q (match fl with | .ret v => v | _ => .none) s') (fun _ _ => False) { s with heap := h₁, toks := tk }) :
    wpAny (model prog w) A (call (.ref f) args) Q E s := by
  refine wpAny_call (codeAny_call_def (o := ⟨oc, od, .func (fdF w.params f), osl⟩) hroom (G.X _ _ ho) rfl G.T.nolimit (codeRec_of G.X hcd) hb (BindsTo.of_eq hbind) (fun x hx => of_decide_eq_true (List.all_eq_true.mp hcell x hx)) (locs hloc) (fun h₁ hns hk₁ => ?_) hco hgen hk)
  exact wpAny_mono (h _ h₁ _ ⟨hns, hk₁, Nat.le_refl _⟩ (G.keeps hk₁)) (fun fl s' x => x) (fun _ _ x => x.elim)
end

end
end Mine
end

-- W2
section
set_option maxRecDepth 100000
set_option linter.unusedVariables false
set_option Elab.async false
namespace Mine
open PySem PySem.W PyProof.Rows PySem.Calls

noncomputable section
theorem fill0 : (PySem.Challenge.rw_lg0018_01, hd.heap_39) = (PySem.Challenge.rw_lg0018_01, hd.heap_39) := by k_fill; rfl
section
variable {prog : Program} {w : World} {A : Around} {E : Value → Shared → Prop} {s : Shared} {mg mb : Str → Option Value}

theorem call_fn2 {f : Addr} {oc : Value} {od : Option Addr} {osl : Array (Option Value)} {args : List Value} {binds : List (Str × Value)} {Q : Value → Shared → Prop}
    {name qual : Str} {params : Arguments} {body : List Stmt} {scope : Scope} {dV kV doc pm cdv ct : Value} {an : Option Addr}
    (G : Gd w mg mb s.heap) (hroom : A.depth < recursionLimit) 
    (ho : (hd.heap_39 w.params).lookup f = some ⟨oc, od, .func (fnOf name qual params body scope dV kV doc pm an cdv ct), osl⟩) (hcd : codeIn (hd.heap_39 w.params) cdv qual = true)
    (hbind : bindArgs (fnOf name qual params body scope dV kV doc pm an cdv ct) ⟨args, []⟩ = pure binds)
    (hloc : (binds.all fun x => decide (scope.names.lookup x.1 = some .local)) = true)
    (hcell : (scope.names.all fun x => decide (x.2 ≠ .cell)) = true)
    (hco : scope.isCoroutine = false) (hgen : scope.isGenerator = false) (hk : scope.kind = .function)
    (h : ∀ L h₁ tk, Fr s.heap L h₁ (fun y => binds.reverse.lookup y) → News s.heap L h₁ [] → (hd.heap_39 w.params).In s.heap → TR mg mb s.heap →
      wpAny (model prog w) (A.deeper (envOf qual scope L f cdv)) (execs body (envOf qual scope L f cdv)) (fun fl s' => Q (match fl with | .ret v => v | _ => .none) s') (fun _ _ => False) { s with heap := h₁, toks := tk }) :
    wpAny (model prog w) A (call (.ref f) args) Q E s := by
  refine wpAny_call (codeAny_call_def (fd := fnOf name qual params body scope dV kV doc pm an cdv ct) (body := body) (o := ⟨oc, od, .func (fnOf name qual params body scope dV kV doc pm an cdv ct), osl⟩) hroom (G.X _ _ ho) rfl G.T.nolimit (codeRec_of G.X hcd) rfl (BindsTo.of_eq hbind) (fun x hx => of_decide_eq_true (List.all_eq_true.mp hcell x hx)) (locs hloc) (fun h₁ hns hk₁ => ?_) hco hgen hk)
  exact wpAny_mono (h _ h₁ _ ⟨hns, hk₁, Nat.le_refl _⟩ News.nil G.X G.T) (fun fl s' x => x) (fun _ _ x => x.elim)

end
end
end Mine
end

-- W3
section
set_option maxRecDepth 100000
set_option linter.unusedVariables false
set_option Elab.async false
namespace Mine
open PySem PySem.W PyProof.Rows PySem.Calls

noncomputable section
/-- one heap is kept whole in another -/
abbrev Kp (h h' : Heap) : Prop := ∀ b o, h.get? b = some o → h'.get? b = some o
theorem Kp.refl (h : Heap) : Kp h h := fun _ _ e => e
theorem Kp.trans {a b c : Heap} (x : Kp a b) (y : Kp b c) : Kp a c := fun p o e => y p o (x p o e)
abbrev Shp := Obj → Prop
abbrev isL (vs : List Value) : Shp := fun o => ∃ n, o = { cls := .type "list", data := .seq vs.toArray n }
abbrev isT (ts : List Str) : Shp := fun o => ∃ vs, StrsAre vs ts ∧ ∃ n, o = { cls := .type "list", data := .seq vs.toArray n }
abbrev isLI (l : Addr) (i : Nat) : Shp := fun o => o.cls = .type "list_iterator" ∧ o.data = .fields #[.ref l, .int i 0]
abbrev isRI (x left step : Int) : Shp := fun o => o = { cls := .type "range_iterator", dict := none, data := .fields #[rawInt x, rawInt left, rawInt step], slots := #[] }
abbrev isC (v : Option Value) : Shp := fun o => o.data = .cell v
theorem isT.isL {ts : List Str} {o : Obj} (h : isT ts o) : ∃ vs, StrsAre vs ts ∧ isL vs o := let ⟨vs, a, n, e⟩ := h; ⟨vs, a, n, e⟩

/-- the frame, its names, the ledger -/
structure St (w : World) (mg mb : Str → Option Value) (h₀ : Heap) (L : Addr) (l : List (Str × Value)) (nw : List (Addr × Shp)) (h : Heap) : Prop where
  F : ∃ m, Fr h₀ L h m ∧ ∀ x v, l.lookup x = some v → m x = some v
  N : ∀ p ∈ nw, (∃ o, h.get? p.1 = some o ∧ p.2 o) ∧ p.1 ≠ L ∧ h₀.get? p.1 = none
  D : (nw.map (·.1)).Nodup
  G : Gd w mg mb h₀

section
variable {w : World} {mg mb : Str → Option Value} {h₀ h h' : Heap} {L : Addr} {l l' : List (Str × Value)} {nw nw' : List (Addr × Shp)}

theorem St.kp (C : St w mg mb h₀ L l nw h) : Kp h₀ h := let ⟨_, F, _⟩ := C.F; F.keep
theorem St.gd (C : St w mg mb h₀ L l nw h) : Gd w mg mb h := C.G.keeps C.kp
theorem Fr.kp {m : Str → Option Value} (F : Fr h₀ L h m) (k : Kp h h') : Fr h₀ L h' m := by
  obtain ⟨oL, a1, a2, hL, a3⟩ := F.ns
  exact ⟨⟨oL, a1, a2, k _ _ hL, a3⟩, fun b o e => k _ _ (F.keep b o e), F.above⟩
theorem St.keeps (C : St w mg mb h₀ L l nw h) (k : Kp h h') : St w mg mb h₀ L l nw h' where
  F := let ⟨m, F, hm⟩ := C.F; ⟨m, Fr.kp F k, hm⟩
  N := fun p hp => let ⟨⟨o, a, b⟩, c, d⟩ := C.N p hp; ⟨⟨o, k _ _ a, b⟩, c, d⟩
  D := C.D
  G := C.G
theorem St.liveL (C : St w mg mb h₀ L l nw h) : ∃ o, h.get? L = some o := let ⟨_, F, _⟩ := C.F; let ⟨o, _, _, e, _⟩ := F.ns; ⟨o, e⟩
/-- a new object -/
theorem St.add {b : Addr} {P : Shp} {o : Obj} (C : St w mg mb h₀ L l nw h) (k : Kp h h') (hf : h.get? b = none) (ho : h'.get? b = some o) (hP : P o) : St w mg mb h₀ L l ((b, P) :: nw) h' := by
  have C' := C.keeps k
  refine ⟨C'.F, fun p hp => ?_, ?_, C.G⟩
  · rcases List.mem_cons.mp hp with rfl | hp
    · refine ⟨⟨o, ho, hP⟩, ?_, ?_⟩
      · rintro (rfl : b = L)
        obtain ⟨oL, e⟩ := C.liveL
        rw [hf] at e; cases e
      · cases e : h₀.get? b with
        | none => rfl
        | some o' => have := C.kp _ _ e; rw [hf] at this; cases this
    · exact C'.N p hp
  · refine List.nodup_cons.mpr ⟨fun hm => ?_, C.D⟩
    obtain ⟨q, hq, (e : q.1 = b)⟩ := List.mem_map.mp hm
    obtain ⟨⟨o', a, _⟩, _⟩ := C.N q hq
    rw [e, hf] at a; cases a
theorem fresh_size (h : Heap) : h.get? h.objs.size = none := by
  cases e : h.get? h.objs.size with
  | none => rfl
  | some o => exact absurd (Heap.lt_size e) (Nat.lt_irrefl _)
theorem kp_push (h : Heap) (o : Obj) : Kp h (h.push o) := fun _ _ e => Heap.get?_push_of_some _ e
theorem St.push {P : Shp} {o : Obj} (C : St w mg mb h₀ L l nw h) (hP : P o) (hfree : o.isFreed = false := by rfl) : St w mg mb h₀ L l ((h.objs.size, P) :: nw) (h.push o) :=
  C.add (kp_push h o) (fresh_size h) (Heap.get?_push_size _ hfree) hP
theorem St.drop (C : St w mg mb h₀ L l nw h) (hs : nw'.Sublist nw) : St w mg mb h₀ L l nw' h :=
  ⟨C.F, fun p hp => C.N p (hs.subset hp), (hs.map _).nodup C.D, C.G⟩
theorem St.names (C : St w mg mb h₀ L l nw h) (hs : ∀ x v, l'.lookup x = some v → l.lookup x = some v) : St w mg mb h₀ L l' nw h :=
  ⟨let ⟨m, F, hm⟩ := C.F; ⟨m, F, fun x v e => hm x v (hs x v e)⟩, C.N, C.D, C.G⟩
theorem St.get {b : Addr} {P : Shp} (C : St w mg mb h₀ L l nw h) (hm : (b, P) ∈ nw) : ∃ o, h.get? b = some o ∧ P o := (C.N _ hm).1

/-- one object turned -/
inductive Up1 (a : Addr) (P P' : Shp) : List (Addr × Shp) → List (Addr × Shp) → Prop
  | head {r} : Up1 a P P' ((a, P) :: r) ((a, P') :: r)
  | tail {p r r'} : Up1 a P P' r r' → Up1 a P P' (p :: r) (p :: r')
theorem Up1.mem {a : Addr} {P P' : Shp} : ∀ {l l' : List (Addr × Shp)}, Up1 a P P' l l' → (a, P) ∈ l
  | _, _, .head => .head _
  | _, _, .tail r => .tail _ r.mem
theorem Up1.keys {a : Addr} {P P' : Shp} : ∀ {l l' : List (Addr × Shp)}, Up1 a P P' l l' → l'.map (·.1) = l.map (·.1)
  | _, _, .head => rfl
  | _, _, .tail r => by rw [List.map_cons, List.map_cons, r.keys]
theorem Up1.new {a : Addr} {P P' : Shp} : ∀ {l l' : List (Addr × Shp)}, Up1 a P P' l l' → (l.map (·.1)).Nodup → ∀ p ∈ l', p = (a, P') ∨ (p ∈ l ∧ p.1 ≠ a)
  | _, _, .head (r := r), nd, p, hp => by
    rcases List.mem_cons.mp hp with rfl | hp
    · exact .inl rfl
    · refine .inr ⟨.tail _ hp, fun e => ?_⟩
      exact (List.nodup_cons.mp nd).1 (List.mem_map.mpr ⟨p, hp, e⟩)
  | _, _, .tail (p := q) r, nd, p, hp => by
    have nd' := List.nodup_cons.mp nd
    rcases List.mem_cons.mp hp with rfl | hp
    · refine .inr ⟨.head _, fun e => nd'.1 ?_⟩
      exact List.mem_map.mpr ⟨_, r.mem, e.symm⟩
    · rcases r.new nd'.2 p hp with e | ⟨e1, e2⟩
      · exact .inl e
      · exact .inr ⟨.tail _ e1, e2⟩
theorem St.up {a : Addr} {P P' : Shp} {o' : Obj} (C : St w mg mb h₀ L l nw h) (U : Up1 a P P' nw nw') (hs : Heap.ExtBut a h h') (ho : h'.get? a = some o') (hP : P' o') : St w mg mb h₀ L l nw' h' := by
  have hma := C.N _ U.mem
  refine ⟨?_, fun p hp => ?_, by rw [U.keys]; exact C.D, C.G⟩
  · obtain ⟨m, F, hm⟩ := C.F
    refine ⟨m, ⟨?_, fun b o e => ?_, F.above⟩, hm⟩
    · obtain ⟨oL, a1, a2, hL, a3⟩ := F.ns
      exact ⟨oL, a1, a2, hs _ _ (Ne.symm hma.2.1) hL, a3⟩
    · refine hs _ _ ?_ (F.keep _ _ e)
      rintro rfl
      have := hma.2.2
      rw [e] at this; cases this
  · rcases U.new C.D p hp with rfl | ⟨hp, hne⟩
    · exact ⟨⟨o', ho, hP⟩, hma.2⟩
    · obtain ⟨⟨o, a1, a2⟩, r⟩ := C.N p hp
      exact ⟨⟨o, hs _ _ hne a1, a2⟩, r⟩
/-- an object let go: whatever it is now -/
theorem St.lose {a : Addr} {P : Shp} (C : St w mg mb h₀ L l ((a, P) :: nw) h) (hs : Heap.ExtBut a h h') : St w mg mb h₀ L l nw h' := by
  have hma := C.N _ (.head _)
  have nd := List.nodup_cons.mp C.D
  refine ⟨?_, fun p hp => ?_, nd.2, C.G⟩
  · obtain ⟨m, F, hm⟩ := C.F
    refine ⟨m, ⟨?_, fun b o e => ?_, F.above⟩, hm⟩
    · obtain ⟨oL, a1, a2, hL, a3⟩ := F.ns
      exact ⟨oL, a1, a2, hs _ _ (Ne.symm hma.2.1) hL, a3⟩
    · refine hs _ _ ?_ (F.keep _ _ e)
      rintro rfl
      have := hma.2.2
      rw [e] at this; cases this
  · obtain ⟨⟨o, a1, a2⟩, r⟩ := C.N p (.tail _ hp)
    refine ⟨⟨o, hs _ _ (fun e => nd.1 (List.mem_map.mpr ⟨p, hp, e⟩)) a1, a2⟩, r⟩

end

section
variable {prog : Program} {w : World} {mg mb : Str → Option Value} {A : Around} {E : Value → Shared → Prop} {s : Shared} {h₀ : Heap} {L a : Addr} {l : List (Str × Value)} {nw nw' : List (Addr × Shp)} {cn : Str} {cs : Scope} {ccd : Value} {cl : List (Str × Addr)}
  {x : Str} {pos : Pos} {v : Value} {Q : Value → Shared → Prop}

theorem rdL (C : St w mg mb h₀ L l nw s.heap) (hv : l.lookup x = some v) (h : Q v s)
    (hk : cs.kind = .function := by rfl) (hx : (envX cn cs L a ccd cl).kindOf x = some .local := by rfl) (hd : (x == ("__debug__" : Str)) = false := by decide) :
    wpAny (model prog w) A (eval (.Name x pos) (envX cn cs L a ccd cl)) Q E s := let ⟨_, F, hm⟩ := C.F; nameX_L F (hm _ _ hv) h hk hx hd
theorem rdK (C : St w mg mb h₀ L l nw s.heap) (e : nsIn (hd.heap_39 w.params) mainGlobals x = some (some v)) (h : Q v s)
    (hk : cs.kind = .function := by rfl) (hx : (envX cn cs L a ccd cl).kindOf x = some .globalImplicit := by rfl) (hd : (x == ("__debug__" : Str)) = false := by decide) :
    wpAny (model prog w) A (eval (.Name x pos) (envX cn cs L a ccd cl)) Q E s := let ⟨_, F, _⟩ := C.F; nameX_K F C.G.X C.G.T e h hk hx hd
theorem rdB (C : St w mg mb h₀ L l nw s.heap) (e : nsIn (hd.heap_39 w.params) mainGlobals x = some none) (hv : bootBuiltins x = some v) (h : Q v s) (hn : x ≠ "__name__" := by decide)
    (hk : cs.kind = .function := by rfl) (hx : (envX cn cs L a ccd cl).kindOf x = some .globalImplicit := by rfl) (hd : (x == ("__debug__" : Str)) = false := by decide) :
    wpAny (model prog w) A (eval (.Name x pos) (envX cn cs L a ccd cl)) Q E s := let ⟨_, F, _⟩ := C.F; nameX_B F C.G.X C.G.T e hv hn h hk hx hd
theorem rdC {c : Addr} (C : St w mg mb h₀ L l nw s.heap) (hc : cl.lookup x = some c) (hm : (c, isC (some v)) ∈ nw) (h : Q v s)
    (hk : cs.kind = .function := by rfl) (hx : (envX cn cs L a ccd cl).kindOf x = some .cell := by rfl) (hb : (x == ("__debug__" : Str)) = false := by decide) :
    wpAny (model prog w) A (eval (.Name x pos) (envX cn cs L a ccd cl)) Q E s := let ⟨o, ho, hd⟩ := C.get hm; wpAny_Name (wpAny_loadName_cell hk hx hc ⟨o, ho, hd⟩ h) hb
theorem lookup_cons_put {x y : Str} {v w : Value} {m : Str → Option Value} (hm : ∀ x v, l.lookup x = some v → m x = some v) (e : ((x, v) :: l).lookup y = some w) : (fun z => if z = x then some v else m z) y = some w := by
  rw [List.lookup_cons] at e
  by_cases h : y = x
  · subst h
    simp only [beq_self_eq_true] at e
    simpa using e
  · have : (y == x) = false := by simpa using h
    rw [this] at e
    simp only [h, if_false]
    exact hm _ _ e
theorem stL {Q : Unit → Shared → Prop} (C : St w mg mb h₀ L l nw s.heap) (h : ∀ h', St w mg mb h₀ L ((x, v) :: l) nw h' → Q () { s with heap := h', toks := s.toks + 1 })
    (hk : cs.kind = .function := by rfl) (hx : (envX cn cs L a ccd cl).kindOf x = some .local := by rfl) : wpAny (model prog w) A (storeName (envX cn cs L a ccd cl) x v) Q E s := by
  obtain ⟨m, F, hm⟩ := C.F
  refine wpAny_storeName_local hx F.ns (fun h' hn hs => h h' ⟨⟨_, F.set hn hs, fun y w e => lookup_cons_put hm e⟩, fun p hp => ?_, C.D, C.G⟩) (by show (cs.kind == .class || (cs.kind == .module && L != mainGlobals)) = false; rw [hk]; rfl)
  obtain ⟨⟨o, a1, a2⟩, b, c⟩ := C.N p hp
  exact ⟨⟨o, (hs.2 _ b).trans a1, a2⟩, b, c⟩
theorem stC {c : Addr} {v₀ : Option Value} {Q : Unit → Shared → Prop} (C : St w mg mb h₀ L l nw s.heap) (hc : cl.lookup x = some c) (U : Up1 c (isC v₀) (isC (some v)) nw nw')
    (h : ∀ h', St w mg mb h₀ L l nw' h' → Q () { s with heap := h' })
    (hk : cs.kind = .function := by rfl) (hx : (envX cn cs L a ccd cl).kindOf x = some .cell := by rfl) : wpAny (model prog w) A (storeName (envX cn cs L a ccd cl) x v) Q E s := by
  obtain ⟨o, ho, hd⟩ := C.get U.mem
  refine wpAny_storeName_cell hk hx hc ⟨o, ho, hd⟩ fun h' hv hs => ?_
  obtain ⟨o', ho', hd'⟩ := hv
  exact h h' (C.up U hs.extBut ho' hd')
end
end
end Mine
end

-- W4
section
set_option maxRecDepth 100000
set_option linter.unusedVariables false
set_option Elab.async false
namespace Mine
open PySem PySem.W PyProof.Rows PySem.Calls

noncomputable section
theorem plainAttrs_pat : PlainAttrs "re.Pattern" := ⟨⟨"object.__getattribute__", by rw [typeLookup_type, builtinLookup_eq_fast]; kernel_rfl, by decide +kernel⟩, by rw [typeLookup_type, builtinLookup_eq_fast]; kernel_rfl⟩
theorem plainAttrs_mat : PlainAttrs "re.Match" := ⟨⟨"object.__getattribute__", by rw [typeLookup_type, builtinLookup_eq_fast]; kernel_rfl, by decide +kernel⟩, by rw [typeLookup_type, builtinLookup_eq_fast]; kernel_rfl⟩

section
variable {prog : Program} {w : World} {mg mb : Str → Option Value} {A : Around} {E : Value → Shared → Prop} {s : Shared} {h₀ : Heap} {L a : Addr} {l : List (Str × Value)} {nw nw' : List (Addr × Shp)} {cn : Str} {cs : Scope} {ccd : Value} {cl : List (Str × Addr)}
  {x : Str} {pos : Pos} {v : Value} {Q : Value → Shared → Prop} {env : Env}

theorem sp1 {M : Model} {e : Expr} {Q : List Value → Shared → Prop} (h : wpAny M A (eval e env) (fun v s₁ => Q [v] s₁) E s) (he : starEach [e] env = (false, eval e env) :: starEach [] env := by rfl) : wpAny M A (spliced (backTo pos (starEach [e] env))) Q E s :=
  args_cons (wpAny_mono h (fun v s₁ h₁ => args_nil h₁) fun _ _ x => x) he
theorem sp2 {M : Model} {e e2 : Expr} {Q : List Value → Shared → Prop} (h : wpAny M A (eval e env) (fun v s₁ => wpAny M A (eval e2 env) (fun v2 s₂ => Q [v, v2] s₂) E s₁) E s)
    (he : starEach [e, e2] env = (false, eval e env) :: starEach [e2] env := by rfl) (he2 : starEach [e2] env = (false, eval e2 env) :: starEach [] env := by rfl) : wpAny M A (spliced (backTo pos (starEach [e, e2] env))) Q E s :=
  args_cons (wpAny_mono h (fun v s₁ h₁ => sp1 h₁ he2) fun _ _ x => x) he
theorem sp3 {M : Model} {e e2 e3 : Expr} {Q : List Value → Shared → Prop} (h : wpAny M A (eval e env) (fun v s₁ => wpAny M A (eval e2 env) (fun v2 s₂ => wpAny M A (eval e3 env) (fun v3 s₃ => Q [v, v2, v3] s₃) E s₂) E s₁) E s)
    (he : starEach [e, e2, e3] env = (false, eval e env) :: starEach [e2, e3] env := by rfl) (he2 : starEach [e2, e3] env = (false, eval e2 env) :: starEach [e3] env := by rfl) (he3 : starEach [e3] env = (false, eval e3 env) :: starEach [] env := by rfl) : wpAny M A (spliced (backTo pos (starEach [e, e2, e3] env))) Q E s :=
  args_cons (wpAny_mono h (fun v s₁ h₁ => sp2 h₁ he2 he3) fun _ _ x => x) he

/-- a def of the text's -/
theorem callK {fn : Str} {np : Pos} {f : Addr} {e : Expr} {rest : List Expr} (C : St w mg mb h₀ L l nw s.heap) (e0 : nsIn (hd.heap_39 w.params) mainGlobals fn = some (some (.ref f))) (hk : keepIn (hd.heap_39 w.params) (.ref f) = true)
    (h : wpAny (model prog w) A (spliced (backTo pos (starEach (e :: rest) (envX cn cs L a ccd cl)))) (fun vs s₁ => (hd.heap_39 w.params).In s₁.heap ∧ wpAny (model prog w) A (call (.ref f) vs) Q E s₁) E s)
    (hk' : cs.kind = .function := by rfl) (hx : (envX cn cs L a ccd cl).kindOf fn = some .globalImplicit := by rfl) (hd : (fn == ("__debug__" : Str)) = false := by decide)
    (he : starEach (e :: rest) (envX cn cs L a ccd cl) = (false, eval e (envX cn cs L a ccd cl)) :: starEach rest (envX cn cs L a ccd cl) := by rfl) (hplain : (backTo pos (starEach rest (envX cn cs L a ccd cl))).any (·.1) = false := by rfl) :
    wpAny (model prog w) A (eval (.Call (.Name fn np) (e :: rest) [] pos) (envX cn cs L a ccd cl)) Q E s :=
  wpAny_Call_ofName (rdK C e0 (callWith_K (first := []) C.G.X hk h he hplain) hk' hx hd)
/-- a function that is built in -/
theorem callB {fn : Str} {np : Pos} {id : String} {e : Expr} {rest : List Expr} (C : St w mg mb h₀ L l nw s.heap) (e0 : nsIn (hd.heap_39 w.params) mainGlobals fn = some none) (hb : bootBuiltins fn = some (.builtin id))
    (h : wpAny (model prog w) A (spliced (backTo pos (starEach (e :: rest) (envX cn cs L a ccd cl)))) (fun vs s₁ => wpAny (model prog w) A (call (.builtin id) vs) Q E s₁) E s) (hn : fn ≠ "__name__" := by decide)
    (hk' : cs.kind = .function := by rfl) (hx : (envX cn cs L a ccd cl).kindOf fn = some .globalImplicit := by rfl) (hd : (fn == ("__debug__" : Str)) = false := by decide)
    (he : starEach (e :: rest) (envX cn cs L a ccd cl) = (false, eval e (envX cn cs L a ccd cl)) :: starEach rest (envX cn cs L a ccd cl) := by rfl) (hplain : (backTo pos (starEach rest (envX cn cs L a ccd cl))).any (·.1) = false := by rfl) :
    wpAny (model prog w) A (eval (.Call (.Name fn np) (e :: rest) [] pos) (envX cn cs L a ccd cl)) Q E s :=
  wpAny_Call_ofName (rdB C e0 hb (callWith_method1 (first := []) h he hplain) hn hk' hx hd)
/-- a type that is built in -/
theorem callY {fn : Str} {np : Pos} {T : String} {e : Expr} {rest : List Expr} (C : St w mg mb h₀ L l nw s.heap) (e0 : nsIn (hd.heap_39 w.params) mainGlobals fn = some none) (hb : bootBuiltins fn = some (.type T))
    (h : wpAny (model prog w) A (spliced (backTo pos (starEach (e :: rest) (envX cn cs L a ccd cl)))) (fun vs s₁ => wpAny (model prog w) A (call (.type T) vs) Q E s₁) E s) (hn : fn ≠ "__name__" := by decide)
    (hk' : cs.kind = .function := by rfl) (hx : (envX cn cs L a ccd cl).kindOf fn = some .globalImplicit := by rfl) (hd : (fn == ("__debug__" : Str)) = false := by decide)
    (he : starEach (e :: rest) (envX cn cs L a ccd cl) = (false, eval e (envX cn cs L a ccd cl)) :: starEach rest (envX cn cs L a ccd cl) := by rfl) (hplain : (backTo pos (starEach rest (envX cn cs L a ccd cl))).any (·.1) = false := by rfl) :
    wpAny (model prog w) A (eval (.Call (.Name fn np) (e :: rest) [] pos) (envX cn cs L a ccd cl)) Q E s :=
  wpAny_Call_ofName (rdB C e0 hb (PyProof.Rows.callWith_type1 h he hplain) hn hk' hx hd)

/-- a method -/
theorem meth1 {o e : Expr} {rest : List Expr} {name : Str} {apos : Pos} {T id : String} (pa : PlainAttrs T) (slot : Slot T name id) (hty : typeOf (.builtin id) = pure (.type "method_descriptor"))
    (h : wpAny (model prog w) A (eval o env) (fun ov s₁ => s₁.TypeIs ov T ∧ (∀ a, ov = .ref a → ∃ ob, s₁.heap.get? a = some ob ∧ ob.dict = none) ∧
      wpAny (model prog w) A (spliced (backTo pos (starEach (e :: rest) env))) (fun vs s₂ => wpAny (model prog w) A (call (.builtin id) (ov :: vs)) Q E s₂) E s₁) E s)
    (hbase : attributeBase o name env (eval o env) = eval o env := by rfl)
    (hfew : ((backTo pos (starEach (e :: rest) env)).all (fun x => !x.1) && (backToKw pos (keywordEach [] env)).all (fun x => x.1.isSome)
      && decide ((e :: rest).length + ([] : List Keyword).length + (if ([] : List Keyword).isEmpty then 0 else 1) < 30)) = true := by rfl)
    (hline : (apos.endLine == pos.line) = true := by rfl)
    (he : starEach (e :: rest) env = (false, eval e env) :: starEach rest env := by rfl) (hplain : (backTo pos (starEach rest env)).any (·.1) = false := by rfl) :
    wpAny (model prog w) A (eval (.Call (.Attribute o name apos) (e :: rest) [] pos) env) Q E s :=
  wpAny_Call_method hbase hfew hline pa slot hty (wpAny_mono h (fun ov s₁ h₁ => ⟨h₁.1, h₁.2.1, callWith_method1 (first := [ov]) h₁.2.2 he hplain⟩) fun _ _ x => x)
theorem meth0 {o : Expr} {name : Str} {apos : Pos} {T id : String} (pa : PlainAttrs T) (slot : Slot T name id) (hty : typeOf (.builtin id) = pure (.type "method_descriptor"))
    (h : wpAny (model prog w) A (eval o env) (fun ov s₁ => s₁.TypeIs ov T ∧ (∀ a, ov = .ref a → ∃ ob, s₁.heap.get? a = some ob ∧ ob.dict = none) ∧ wpAny (model prog w) A (call (.builtin id) [ov]) Q E s₁) E s)
    (hbase : attributeBase o name env (eval o env) = eval o env := by rfl)
    (hfew : ((backTo pos (starEach [] env)).all (fun x => !x.1) && (backToKw pos (keywordEach [] env)).all (fun x => x.1.isSome)
      && decide (([] : List Expr).length + ([] : List Keyword).length + (if ([] : List Keyword).isEmpty then 0 else 1) < 30)) = true := by rfl)
    (hline : (apos.endLine == pos.line) = true := by rfl) :
    wpAny (model prog w) A (eval (.Call (.Attribute o name apos) [] [] pos) env) Q E s :=
  wpAny_Call_method hbase hfew hline pa slot hty (wpAny_mono h (fun ov s₁ h₁ => ⟨h₁.1, h₁.2.1, callWith_method0 (first := [ov]) h₁.2.2⟩) fun _ _ x => x)
end

theorem fill2 : (PySem.Challenge.rw_lg0018_01, hd.heap_39) = (PySem.Challenge.rw_lg0018_01, hd.heap_39) := by k_fill; rfl
section
variable {prog : Program} {w : World} {mg mb : Str → Option Value} {A : Around} {E : Value → Shared → Prop} {s : Shared} {x : Str} {t : Tok} {Q : Value → Shared → Prop}

theorem pat1 {h : Heap} (G : Gd w mg mb h) : ∃ pat fl c codeV n, h.get? 36 = some (patObj pat fl 1 c) ∧ h.get? c = some { cls := .type "tuple", data := .seq codeV n } ∧ (codeV.map Builtin.Re.reRawOf).map (·.toNat) = code1 :=
  ⟨_, _, 35, _, _, G.X 36 _ (show (hd.heap_39 w.params).lookup 36 = some _ from by k_is), G.X 35 _ (show (hd.heap_39 w.params).lookup 35 = some _ from by k_is), by decide +kernel⟩
theorem pat2 {h : Heap} (G : Gd w mg mb h) : ∃ pat fl c codeV n, h.get? 41 = some (patObj pat fl 0 c) ∧ h.get? c = some { cls := .type "tuple", data := .seq codeV n } ∧ (codeV.map Builtin.Re.reRawOf).map (·.toNat) = code2 :=
  ⟨_, _, 40, _, _, G.X 41 _ (show (hd.heap_39 w.params).lookup 41 = some _ from by k_is), G.X 40 _ (show (hd.heap_39 w.params).lookup 40 = some _ from by k_is), by decide +kernel⟩
theorem pat3 {h : Heap} (G : Gd w mg mb h) : ∃ pat fl c codeV n, h.get? 46 = some (patObj pat fl 1 c) ∧ h.get? c = some { cls := .type "tuple", data := .seq codeV n } ∧ (codeV.map Builtin.Re.reRawOf).map (·.toNat) = code3 :=
  ⟨_, _, 45, _, _, G.X 46 _ (show (hd.heap_39 w.params).lookup 46 = some _ from by k_is), G.X 45 _ (show (hd.heap_39 w.params).lookup 45 = some _ from by k_is), by decide +kernel⟩

theorem St.init {L : Addr} {h₁ : Heap} {binds l : List (Str × Value)} (F : Fr s.heap L h₁ (fun y => binds.reverse.lookup y)) (G : Gd w mg mb s.heap) (hl : binds.reverse = l) : St w mg mb s.heap L l [] h₁ :=
  ⟨⟨_, F, fun x v e => by subst hl; exact e⟩, fun _ h => (nomatch h), .nil, G⟩
/-- a def without cells -/
theorem call_fn3 {f : Addr} {oc : Value} {od : Option Addr} {osl : Array (Option Value)} {args : List Value} {binds : List (Str × Value)} {Q : Value → Shared → Prop}
    {name qual : Str} {params : Arguments} {body : List Stmt} {scope : Scope} {dV kV doc pm cdv ct : Value} {an : Option Addr}
    (G : Gd w mg mb s.heap) (hroom : A.depth < recursionLimit) 
    (ho : (hd.heap_39 w.params).lookup f = some ⟨oc, od, .func (fnOf name qual params body scope dV kV doc pm an cdv ct), osl⟩) (hcd : codeIn (hd.heap_39 w.params) cdv qual = true)
    (hbind : bindArgs (fnOf name qual params body scope dV kV doc pm an cdv ct) ⟨args, []⟩ = pure binds)
    (hloc : (binds.all fun x => decide (scope.names.lookup x.1 = some .local)) = true)
    (hcell : (scope.names.all fun x => decide (x.2 ≠ .cell)) = true)
    (hco : scope.isCoroutine = false) (hgen : scope.isGenerator = false) (hk : scope.kind = .function)
    (h : ∀ L h₁ tk, St w mg mb s.heap L binds.reverse [] h₁ →
      wpAny (model prog w) (A.deeper (envX qual scope L f cdv [])) (execs body (envX qual scope L f cdv [])) (fun fl s' => Q (match fl with | .ret v => v | _ => .none) s') (fun _ _ => False) { s with heap := h₁, toks := tk }) :
    wpAny (model prog w) A (call (.ref f) args) Q E s :=
  call_fn2 G hroom ho hcd hbind hloc hcell hco hgen hk (fun L h₁ tk F _ _ _ => h L h₁ tk (St.init F G rfl))

abbrev noNl (x : Str) : Prop := ∀ q, x.cps.getD q 0 ≠ 10

theorem is_all_white_spec (G : Gd w mg mb s.heap) (hroom : A.depth < recursionLimit) (hx : x.length ≤ sizeLine) (hno : noNl x)
   (h : ∀ h' tk, Kp s.heap h' → Q (.bool (x.cps.toList.all sp)) { s with heap := h', toks := tk }) :
   wpAny (model prog w) A (call (.ref 67) [.str x t]) Q E s := by
  refine' call_fn3 (f := 67) (binds := [(Str.ofString "line", .str x t)]) G hroom ?ho ?hcd ?hb ?hl ?hc ?h1 ?h2 ?h3 ?_
  case ho => k_is
  case hcd => k_is
  case hb => exact rfl
  case hl => exact rfl
  case hc => exact rfl
  case h1 => exact rfl
  case h2 => exact rfl
  case h3 => exact rfl
  intro L h₁ tk C
  refine wpAny_execs_cons (wpAny_Return_some (wpAny_Compare1 ?_))
  refine meth1 plainAttrs_pat slot_match type_match ?_
  refine rdK C (by k_is) ?_
  obtain ⟨pat, fl, c, codeV, n, e1, e2, e3⟩ := pat2 C.gd
  refine ⟨⟨_, e1, rfl⟩, fun a ha => ⟨_, by cases ha; exact e1, rfl⟩, sp1 (rdL C rfl ?_)⟩
  refine wp_match2 e1 e2 e3 hx hno (fun hq a h' hk => ?_) (fun hq => ?_)
  · refine wpAny_Constant_none (wpAny_isNot_other (by rfl) (by intro x; cases x) ?_)
    have := (cnt_all x.cps).mp hq
    rw [this] at h
    exact h _ _ (Kp.trans C.kp hk)
  · refine wpAny_Constant_none (wpAny_isNot_self (by rfl) ?_)
    have : x.cps.toList.all sp = false := by
      cases e : x.cps.toList.all sp with
      | false => rfl
      | true => exact absurd ((cnt_all x.cps).mpr e) hq
    rw [this] at h
    exact h _ _ C.kp

theorem get_indent_spec (G : Gd w mg mb s.heap) (hroom : A.depth < recursionLimit) (hx : x.length ≤ sizeLine)
   (h : ∀ h' tk t', Kp s.heap h' → Q (.str (S (x.cps.toList.takeWhile isInd)) t') { s with heap := h', toks := tk }) :
   wpAny (model prog w) A (call (.ref 74) [.str x t]) Q E s := by
  refine' call_fn3 (f := 74) (binds := [(Str.ofString "line", .str x t)]) G hroom ?ho ?hcd ?hb ?hl ?hc ?h1 ?h2 ?h3 ?_
  case ho => k_is
  case hcd => k_is
  case hb => exact rfl
  case hl => exact rfl
  case hc => exact rfl
  case h1 => exact rfl
  case h2 => exact rfl
  case h3 => exact rfl
  intro L h₁ tk C
  refine wpAny_execs_cons (wpAny_Return_some ?_)
  refine meth0 plainAttrs_mat slot_group type_group ?_
  refine meth1 plainAttrs_pat slot_match type_match ?_
  refine rdK C (by k_is) ?_
  obtain ⟨pat, fl, c, codeV, n, e1, e2, e3⟩ := pat3 C.gd
  refine ⟨⟨_, e1, rfl⟩, fun a ha => ⟨_, by cases ha; exact e1, rfl⟩, sp1 (rdL C rfl ?_)⟩
  refine wp_match3 e1 e2 e3 hx (fun a tp h' g1 g2 hk ha ht => ?_)
  refine ⟨⟨_, ha, rfl⟩, fun b hb => ⟨_, by cases hb; exact ha, rfl⟩, ?_⟩
  refine wp_group hx ha ht ?_
  have hc : (⟨x.cps.extract 0 (cnt isInd x.cps x.cps.size 0)⟩ : Str) = S (x.cps.toList.takeWhile isInd) := by
    rw [extract_S, cnt_eq isInd x.cps x.cps.size 0 (by omega), List.drop_zero, Nat.sub_zero]
    congr 2
    conv => lhs; rw [← List.takeWhile_append_dropWhile (p := isInd) (l := x.cps.toList)]
    have e9 : (x.cps.toList.takeWhile isInd ++ x.cps.toList.dropWhile isInd).takeWhile isInd = x.cps.toList.takeWhile isInd := by rw [List.takeWhile_append_dropWhile]
    rw [e9, List.take_left]
  rw [hc]
  exact h _ _ _ (Kp.trans C.kp hk)
end
end
end Mine
end

-- P1
section
set_option maxRecDepth 100000
set_option linter.unusedVariables false
namespace Mine
open PySem PySem.Builtin PySem.Builtin.Str PyProof.Rows

/-- rows joined by line ends -/
def joinL : List (List Nat) → List Nat
  | [] => []
  | [l] => l
  | l :: r => l ++ 10 :: joinL r

theorem mem_tw {p : Nat → Bool} : ∀ {l : List Nat} {x : Nat}, x ∈ l.takeWhile p → p x = true
  | [], _, h => by cases h
  | a :: l, x, h => by
    rw [List.takeWhile_cons] at h
    split at h
    · rename_i ha
      rcases List.mem_cons.mp h with rfl | h
      · exact ha
      · exact mem_tw h
    · cases h
theorem str_eta (x : Str) : S x.cps.toList = x := rfl
theorem S_toList (l : List Nat) : (S l).cps.toList = l := rfl
theorem S_len (l : List Nat) : (S l).length = l.length := rfl
theorem S_inj {a b : List Nat} (h : S a = S b) : a = b := congrArg (fun x : Str => x.cps.toList) h
theorem S_append (a b : List Nat) : S a ++ S b = S (a ++ b) := by
  refine Str.ext' ?_
  rw [Str.cps_append]
  show a.toArray ++ b.toArray = (a ++ b).toArray
  simp

theorem str_join : ∀ ls : List (List Nat), Str.join (S [10]) (ls.map S) = S (joinL ls)
  | [] => rfl
  | [l] => rfl
  | l :: k :: r => by
    show S l ++ S [10] ++ Str.join (S [10]) ((k :: r).map S) = S (l ++ 10 :: joinL (k :: r))
    rw [str_join (k :: r), S_append, S_append]
    simp
theorem txt_join (ls : List (List Nat)) : Txt.join (S [10]) (ls.map S) = S (joinL ls) := by
  show glued _ _ = _
  rw [StrLaws.glued_eq_join, str_join]

theorem app_free {a b r r' : List Nat} : ∀ (_ : 10 ∉ a) (_ : 10 ∉ b) (_ : a ++ 10 :: r = b ++ 10 :: r'), a = b ∧ r = r' := by
  induction a generalizing b with
  | nil =>
    intro _ hb h
    cases b with
    | nil => simpa using h
    | cons c b =>
      have : (10 : Nat) = c := by have := congrArg List.head? h; simpa using this
      exact absurd (by rw [this]; exact List.mem_cons_self) hb
  | cons c a ih =>
    intro ha hb h
    cases b with
    | nil =>
      have : c = 10 := by have := congrArg List.head? h; simpa using this
      exact absurd (by rw [this]; exact List.mem_cons_self) ha
    | cons d b =>
      simp only [List.cons_append, List.cons.injEq] at h
      obtain ⟨h1, h2⟩ := ih (fun e => ha (List.mem_cons_of_mem _ e)) (fun e => hb (List.mem_cons_of_mem _ e)) h.2
      exact ⟨by rw [h.1, h1], h2⟩

theorem joinL_inj : ∀ (a b : List (List Nat)), a ≠ [] → b ≠ [] → (∀ l ∈ a, 10 ∉ l) → (∀ l ∈ b, 10 ∉ l) → joinL a = joinL b → a = b
  | [], _, h, _, _, _, _ => absurd rfl h
  | _, [], _, h, _, _, _ => absurd rfl h
  | [l], [k], _, _, _, _, h => by rw [show l = k from h]
  | [l], k :: k' :: r, _, _, ha, _, h => by
    have : 10 ∈ l := by rw [show l = k ++ 10 :: joinL (k' :: r) from h]; simp
    exact absurd this (ha l List.mem_cons_self)
  | l :: l' :: r, [k], _, _, _, hb, h => by
    have : 10 ∈ k := by rw [show k = l ++ 10 :: joinL (l' :: r) from h.symm]; simp
    exact absurd this (hb k List.mem_cons_self)
  | l :: l' :: r, k :: k' :: r', _, _, ha, hb, h => by
    obtain ⟨h1, h2⟩ := app_free (ha l List.mem_cons_self) (hb k List.mem_cons_self) (show l ++ 10 :: joinL (l' :: r) = k ++ 10 :: joinL (k' :: r') from h)
    have := joinL_inj (l' :: r) (k' :: r') (by simp) (by simp) (fun x hx => ha x (List.mem_cons_of_mem _ hx)) (fun x hx => hb x (List.mem_cons_of_mem _ hx)) h2
    rw [h1, this]

theorem map_S_toList (ts : List Str) : (ts.map fun x : Str => x.cps.toList).map S = ts := by
  rw [List.map_map]
  exact List.map_id _
theorem split_ne (x y : Str) (hy : y.length ≠ 0) : Txt.split x y ≠ [] := by
  unfold Txt.split
  split
  · simp
  · split
    · simp
    · rw [StrLaws.partsBetween_eq]
      cases occurrences x y 0 x.length (x.length + 1) <;> simp [StrLaws.partsFrom]
theorem txt_split {ls : List (List Nat)} (h0 : ls ≠ []) (hf : ∀ l ∈ ls, 10 ∉ l) : Txt.split (S (joinL ls)) (S [10]) = ls.map S := by
  have h1 := StrLaws.join_split (S (joinL ls)) (S [10])
  have h2 := StrLaws.split_free (S (joinL ls)) 10
  have h3 := split_ne (S (joinL ls)) (S [10]) (by show 1 ≠ 0; decide)
  generalize ht : Txt.split (S (joinL ls)) (S [10]) = ts at h1 h3
  have h2' : ∀ p ∈ ts, 10 ∉ p.cps.toList := by rw [← ht]; exact h2
  have e : (ts.map fun x : Str => x.cps.toList).map S = ts := map_S_toList ts
  rw [← e, str_join] at h1
  have := joinL_inj _ _ (by simpa using h3) h0 (by
    intro l hl
    obtain ⟨p, hp, rfl⟩ := List.mem_map.mp hl
    exact h2' p hp) hf (S_inj h1)
  rw [← e, this]

/-- the white signs at the end struck -/
def rstripL (l : List Nat) : List Nat := (l.reverse.dropWhile sp).reverse
theorem take_len_sub_takeWhile (l : List Nat) : l.take (l.length - (l.reverse.takeWhile sp).length) = rstripL l := by
  unfold rstripL
  have h := List.takeWhile_append_dropWhile (p := sp) (l := l.reverse)
  have hl : l = (l.reverse.dropWhile sp).reverse ++ (l.reverse.takeWhile sp).reverse := by
    rw [← List.reverse_append, h, List.reverse_reverse]
  have hlen := congrArg List.length h
  rw [List.length_append, List.length_reverse] at hlen
  have e : l.length - (l.reverse.takeWhile sp).length = (l.reverse.dropWhile sp).reverse.length := by
    rw [List.length_reverse]; omega
  rw [e]
  conv => lhs; arg 2; rw [hl]
  exact List.take_left
theorem txt_rstrip (l : List Nat) : Txt.rstrip (S l) = S (rstripL l) := by
  have key : stripped Unicode.isSpace false true (S l) = S (rstripL l) := by
    unfold stripped stripLo stripHi
    refine Str.ext' ?_
    apply Array.toList_inj.mp
    rw [StrLaws.strSub_toList]
    simp only [Bool.false_eq_true, if_false, if_true, List.drop_zero, Nat.sub_zero]
    exact take_len_sub_takeWhile l
  unfold Txt.rstrip Txt.stripBy
  split
  · rename_i hs
    rw [← key]
    unfold stripSame at hs
    simp only [Bool.and_eq_true, beq_iff_eq] at hs
    unfold stripped
    have hs1 := hs.1
    have hs2 := hs.2
    rw [hs1] at hs2
    rw [hs1, hs2]
    refine Str.ext' ?_
    apply Array.toList_inj.mp
    rw [StrLaws.strSub_toList, List.drop_zero, Nat.sub_zero]
    exact (List.take_of_length_le (Nat.le_refl _)).symm
  · exact key
theorem rstripL_len (l : List Nat) : (rstripL l).length ≤ l.length := by
  rw [← take_len_sub_takeWhile, List.length_take]; omega

theorem txt_strip_nil (l : List Nat) : ((Txt.strip (S l)).cps.toList == []) = l.all sp := by
  have key : (stripped Unicode.isSpace true true (S l)).cps.toList = rstripL (l.dropWhile sp) := by
    unfold stripped stripLo stripHi
    rw [StrLaws.strSub_toList]
    simp only [if_true]
    show (l.drop (l.takeWhile sp).length).take _ = _
    rw [← take_len_sub_takeWhile, drop_takeWhile]
    congr 1
    have h := congrArg List.length (List.takeWhile_append_dropWhile (p := sp) (l := l))
    rw [List.length_append] at h
    show l.length - ((l.dropWhile sp).reverse.takeWhile sp).length - (l.takeWhile sp).length = (l.dropWhile sp).length - ((l.dropWhile sp).reverse.takeWhile sp).length
    omega
  have key2 : (Txt.strip (S l)).cps.toList = rstripL (l.dropWhile sp) := by
    unfold Txt.strip Txt.stripBy
    split
    · rename_i hs
      rw [← key]
      unfold stripSame at hs
      simp only [Bool.and_eq_true, beq_iff_eq] at hs
      unfold stripped
      have hs1 := hs.1
      have hs2 := hs.2
      rw [hs1] at hs2
      rw [hs1, hs2, StrLaws.strSub_toList, List.drop_zero, Nat.sub_zero]
      exact (List.take_of_length_le (Nat.le_refl _)).symm
    · exact key
  rw [key2]
  cases hd : l.dropWhile sp with
  | nil =>
    have : l.all sp = true := by
      rw [List.all_eq_true]
      have := List.takeWhile_append_dropWhile (p := sp) (l := l)
      rw [hd, List.append_nil] at this
      intro x hx
      rw [← this] at hx
      exact mem_tw hx
    rw [this]; rfl
  | cons c r =>
    have hc := dropWhile_head hd
    have h1 : l.all sp = false := by
      rw [List.all_eq_false]
      refine ⟨c, ?_, by rw [hc]; exact Bool.false_ne_true⟩
      have := List.takeWhile_append_dropWhile (p := sp) (l := l)
      rw [hd] at this
      rw [← this]; simp
    have h2 : rstripL (c :: r) ≠ [] := by
      unfold rstripL
      intro e
      have e2 : (c :: r).reverse.dropWhile sp = [] := by simpa using e
      have e3 := List.takeWhile_append_dropWhile (p := sp) (l := (c :: r).reverse)
      rw [e2, List.append_nil] at e3
      have : c ∈ (c :: r).reverse := by simp
      rw [← e3] at this
      rw [mem_tw this] at hc
      cases hc
    rw [h1]
    simpa using h2

/-- the first word -/
def word1 (l : List Nat) : List Nat := (l.dropWhile sp).takeWhile ns

section
open StrLaws
def Sw1 (p q cur : Nat) (st : SwSt) : Prop :=
  st.fst = none ∧ (cur ≤ p → st.snd.fst = #[] ∧ st.snd.snd = none) ∧ (p < cur → cur ≤ q → st.snd.fst = #[] ∧ st.snd.snd = some p) ∧ (q < cur → ∃ r, st.snd.fst.toList = (p, q) :: r)
theorem sw1_run (s : Str) (limit p q : Nat) (hl : s.length < limit) (hpq : p ≤ q) (hp : ∀ i, i < p → Unicode.isSpace (s.cps.getD i 0) = true) (hq : ∀ i, p ≤ i → i < q → Unicode.isSpace (s.cps.getD i 0) = false)
    (hpe : p < s.length → p < q) (hqe : q < s.length → Unicode.isSpace (s.cps.getD q 0) = true) :
    ∀ (m cur : Nat) (st : SwSt), cur + m ≤ s.length → SwOk s.length cur st → Sw1 p q cur st → Sw1 p q (cur + m) (forIn (List.range' cur m) st (swBody s limit)).run
  | 0, cur, st, _, _, h => h
  | m + 1, cur, (r, words, start), hm, h, hw => by
    rw [List.range'_succ, List.forIn_cons]
    have e : cur + (m + 1) = (cur + 1) + m := by omega
    rw [e]
    obtain ⟨h1, h2, h3⟩ := id h
    obtain ⟨w1, w2, w3, w4⟩ := hw
    have hsz : ¬ ((words.size == limit) = true) := by
      have a := len_le_wsum words.toList
      have b : words.toList.length = words.size := by simp
      have c : wsum words.toList ≤ cur := by
        cases start with
        | none => exact h3
        | some b => exact Nat.le_trans h3.2 h3.1
      rw [beq_iff_eq]; omega
    have step := sw_run s limit hl 1 cur (r, words, start) (by omega) h
    rw [show List.range' cur 1 = [cur] from rfl, List.forIn_cons] at step
    unfold swBody at step ⊢
    simp only [hsz] at step ⊢
    dsimp only at w1 w2 w3 w4
    cases start with
    | none =>
      cases hsp : Unicode.isSpace (s.cps.getD cur 0)
      · simp only [hsp] at step ⊢
        refine sw1_run s limit p q hl hpq hp hq hpe hqe m (cur + 1) _ (by omega) step ?_
        refine ⟨rfl, fun hc => ?_, fun ha hb => ?_, fun ha => ?_⟩
        · have := hp cur (by omega); rw [hsp] at this; cases this
        · by_cases hc : p < cur
          · have := (w3 hc (by omega)).2; cases this
          · have : cur = p := by omega
            subst this
            exact ⟨(w2 (by omega)).1, rfl⟩
        · by_cases hc : q < cur
          · exact w4 hc
          · have hqc : q = cur := by omega
            have := hqe (by omega); rw [hqc, hsp] at this; cases this
      · simp only [hsp] at step ⊢
        refine sw1_run s limit p q hl hpq hp hq hpe hqe m (cur + 1) _ (by omega) step ?_
        refine ⟨rfl, fun hc => ⟨(w2 (by omega)).1, rfl⟩, fun ha hb => ?_, fun ha => ?_⟩
        · by_cases hc : p < cur
          · have := (w3 hc (by omega)).2; cases this
          · have := hq cur (by omega) (by omega); rw [hsp] at this; cases this
        · by_cases hc : q < cur
          · exact w4 hc
          · have hqc : q = cur := by omega
            have hpc : p < q := hpe (by omega)
            have := (w3 (by omega) (by omega)).2; cases this
    | some b =>
      cases hsp : Unicode.isSpace (s.cps.getD cur 0)
      · simp only [hsp] at step ⊢
        refine sw1_run s limit p q hl hpq hp hq hpe hqe m (cur + 1) _ (by omega) step ?_
        refine ⟨rfl, fun hc => ?_, fun ha hb => ?_, fun ha => ?_⟩
        · have := (w2 (by omega)).2; cases this
        · by_cases hc : p < cur
          · exact w3 hc (by omega)
          · have := (w2 (by omega)).2; cases this
        · by_cases hc : q < cur
          · exact w4 hc
          · have hqc : q = cur := by omega
            have := hqe (by omega); rw [hqc, hsp] at this; cases this
      · simp only [hsp] at step ⊢
        refine sw1_run s limit p q hl hpq hp hq hpe hqe m (cur + 1) _ (by omega) step ?_
        refine ⟨rfl, fun hc => ?_, fun ha hb => ?_, fun ha => ?_⟩
        · have := (w2 (by omega)).2; cases this
        · by_cases hc : p < cur
          · have := hq cur (by omega) (by omega); rw [hsp] at this; cases this
          · have := (w2 (by omega)).2; cases this
        · by_cases hc : q < cur
          · obtain ⟨r, hr⟩ := w4 hc
            exact ⟨r ++ [(b, cur)], by rw [Array.toList_push, hr]; rfl⟩
          · have hqc : q = cur := by omega
            by_cases hpc : p < cur
            · obtain ⟨x1, x2⟩ := w3 hpc (by omega)
              subst x1
              cases x2
              exact ⟨[], by rw [hqc]; rfl⟩
            · have := (w2 (by omega)).2; cases this

theorem getD_of_lt {l : List Nat} {i : Nat} (h : i < l.length) : (S l).cps.getD i 0 = l[i] := by
  rw [Array.getD_eq_getD_getElem?]
  show (l.toArray[i]?).getD 0 = _
  simp [h]

theorem txt_words (l : List Nat) : (l.all sp = true ∧ Txt.words (S l) = []) ∨ (l.all sp = false ∧ ∃ r, Txt.words (S l) = S (word1 l) :: r) := by
  have hlen := congrArg List.length (List.takeWhile_append_dropWhile (p := sp) (l := l))
  have hlen2 := congrArg List.length (List.takeWhile_append_dropWhile (p := ns) (l := l.dropWhile sp))
  rw [List.length_append] at hlen hlen2
  have eA : l = l.takeWhile sp ++ ((l.dropWhile sp).takeWhile ns ++ (l.dropWhile sp).dropWhile ns) := by
    rw [List.takeWhile_append_dropWhile, List.takeWhile_append_dropWhile]
  have eW : word1 l = (l.drop (l.takeWhile sp).length).take ((l.takeWhile sp).length + (word1 l).length - (l.takeWhile sp).length) := by
    rw [drop_takeWhile, Nat.add_sub_cancel_left]
    unfold word1
    conv => rhs; arg 2; rw [← List.takeWhile_append_dropWhile (p := ns) (l := l.dropWhile sp)]
    exact List.take_left.symm
  have hwl : (word1 l).length = ((l.dropWhile sp).takeWhile ns).length := rfl
  have hp : ∀ i, i < (l.takeWhile sp).length → Unicode.isSpace ((S l).cps.getD i 0) = true := by
    intro i hi
    rw [getD_of_lt (by omega)]
    have : l[i]'(by omega) = (l.takeWhile sp)[i] := by
      have e : l[i]? = (l.takeWhile sp)[i]? := by
        conv => lhs; rw [eA]
        rw [List.getElem?_append_left hi]
      rw [List.getElem?_eq_getElem (by omega), List.getElem?_eq_getElem hi] at e
      exact Option.some.inj e
    rw [this]
    exact mem_tw (p := sp) (List.getElem_mem hi)
  have hq : ∀ i, (l.takeWhile sp).length ≤ i → i < (l.takeWhile sp).length + (word1 l).length → Unicode.isSpace ((S l).cps.getD i 0) = false := by
    intro i h1 h2
    rw [getD_of_lt (by omega)]
    have : l[i]'(by omega) = (word1 l)[i - (l.takeWhile sp).length]'(by omega) := by
      have e : l[i]? = (word1 l)[i - (l.takeWhile sp).length]? := by
        conv => lhs; rw [eA]
        rw [List.getElem?_append_right h1, List.getElem?_append_left (by omega)]
        rfl
      rw [List.getElem?_eq_getElem (by omega), List.getElem?_eq_getElem (by omega)] at e
      exact Option.some.inj e
    rw [this]
    have hlt9 : i - (l.takeWhile sp).length < (word1 l).length := by omega
    have := mem_tw (p := ns) (l := l.dropWhile sp) (List.getElem_mem (l := word1 l) hlt9)
    simpa [ns] using this
  have hpe : (l.takeWhile sp).length < l.length → (l.takeWhile sp).length < (l.takeWhile sp).length + (word1 l).length := by
    intro h
    cases hd : l.dropWhile sp with
    | nil => rw [hd] at hlen; simp at hlen; omega
    | cons c r =>
      have := dropWhile_head hd
      have hc : ns c = true := by show (!sp c) = true; rw [this]; rfl
      have : 0 < (word1 l).length := by unfold word1; rw [hd, List.takeWhile_cons, hc]; simp
      omega
  have hqe : (l.takeWhile sp).length + (word1 l).length < l.length → Unicode.isSpace ((S l).cps.getD ((l.takeWhile sp).length + (word1 l).length) 0) = true := by
    intro h
    rw [getD_of_lt h]
    cases hd : (l.dropWhile sp).dropWhile ns with
    | nil => rw [hd] at hlen2; simp at hlen2; omega
    | cons c r =>
      have h9 := dropWhile_head hd
      have e : l[(l.takeWhile sp).length + (word1 l).length]? = some c := by
        conv => lhs; arg 1; rw [eA]
        rw [List.getElem?_append_right (by omega), List.getElem?_append_right (by omega), hd]
        rw [hwl, Nat.add_sub_cancel_left, Nat.sub_self]; rfl
      rw [List.getElem?_eq_getElem h] at e
      rw [Option.some.inj e]
      simpa [ns] using h9
  have key := sw1_run (S l) (l.length + 1) (l.takeWhile sp).length ((l.takeWhile sp).length + (word1 l).length) (Nat.lt_succ_self _) (by omega) hp hq hpe hqe l.length 0 ((none, #[], none) : SwSt) (by show 0 + l.length ≤ l.length; omega) (by
    refine ⟨rfl, ?_, ?_⟩
    · intro p hp
      simp at hp
    · exact Nat.le_refl 0) ⟨rfl, fun _ => ⟨rfl, rfl⟩, fun h => absurd h (Nat.not_lt_zero _), fun h => absurd h (Nat.not_lt_zero _)⟩
  rw [Nat.zero_add] at key
  have hsw := sw_eq (S l) (l.length + 1)
  rw [S_len] at hsw
  generalize (forIn (List.range' 0 l.length) ((none, #[], none) : SwSt) (swBody (S l) (l.length + 1))).run = st at key hsw
  obtain ⟨r, words, start⟩ := st
  obtain ⟨k1, k2, k3, k4⟩ := key
  dsimp only at k1 k2 k3 k4
  subst k1
  have hW : Txt.words (S l) = if (spaceWords (S l) (l.length + 1) == [(0, l.length)]) = true then [S l] else (spaceWords (S l) (l.length + 1)).map fun (p : Nat × Nat) => strSub (S l) p.1 p.2 := rfl
  by_cases hall : l.all sp = true
  · refine .inl ⟨hall, ?_⟩
    have : l.takeWhile sp = l := by
      have e : l.dropWhile sp = [] := by
        cases hd : l.dropWhile sp with
        | nil => rfl
        | cons c r =>
          have hc := dropWhile_head hd
          have hm : c ∈ l := by
            rw [eA, List.takeWhile_append_dropWhile, hd]; simp
          rw [List.all_eq_true.mp hall c hm] at hc; cases hc
      rw [e] at eA
      simpa using eA.symm
    rw [this] at k2
    obtain ⟨a1, a2⟩ := k2 (Nat.le_refl _)
    subst a1 a2
    have : spaceWords (S l) (l.length + 1) = [] := hsw
    rw [hW, this]
    rfl
  · have hall' : l.all sp = false := by simpa using hall
    refine .inr ⟨hall', ?_⟩
    have hlt : (l.takeWhile sp).length < l.length := by
      rcases Nat.lt_or_ge (l.takeWhile sp).length l.length with h | h
      · exact h
      · exfalso
        apply hall
        have : l.dropWhile sp = [] := List.length_eq_zero_iff.mp (by omega)
        rw [this] at eA
        simp at eA
        rw [List.all_eq_true]
        intro x hx
        rw [eA] at hx
        exact mem_tw hx
    have hlt2 := hpe hlt
    have hsp : ∃ r, spaceWords (S l) (l.length + 1) = ((l.takeWhile sp).length, (l.takeWhile sp).length + (word1 l).length) :: r := by
      rw [hsw]
      by_cases hc : (l.takeWhile sp).length + (word1 l).length < l.length
      · obtain ⟨r, hr⟩ := k4 hc
        unfold swEnd
        cases start with
        | none => exact ⟨r, hr⟩
        | some b => exact ⟨r ++ [(b, (S l).length)], by show (words.push (b, (S l).length)).toList = _; rw [Array.toList_push, hr]; rfl⟩
      · obtain ⟨a1, a2⟩ := k3 hlt (by omega)
        subst a1 a2
        refine ⟨[], ?_⟩
        have : (l.takeWhile sp).length + (word1 l).length = l.length := by omega
        rw [this]; rfl
    obtain ⟨r, hr⟩ := hsp
    have hsub : strSub (S l) (l.takeWhile sp).length ((l.takeWhile sp).length + (word1 l).length) = S (word1 l) := by
      refine Str.ext' (Array.toList_inj.mp ?_)
      rw [StrLaws.strSub_toList]
      exact eW.symm
    rw [hW, hr]
    split
    · rename_i hb
      have hb' := beq_iff_eq.mp hb
      injection hb' with hb1 hb2
      injection hb1 with hb3 hb4
      refine ⟨[], ?_⟩
      have : S l = S (word1 l) := by
        rw [← hsub, hb4, hb3]
        refine Str.ext' (Array.toList_inj.mp ?_)
        rw [StrLaws.strSub_toList, List.drop_zero, Nat.sub_zero]
        exact (List.take_of_length_le (Nat.le_refl _)).symm
      rw [this]
    · exact ⟨_, by rw [List.map_cons, hsub]⟩
end
end Mine
end

-- P2
section
set_option maxRecDepth 100000
set_option linter.unusedVariables false
namespace Mine
open PySem PySem.Builtin PySem.Builtin.Str PyProof.Rows

abbrev isW (l : List Nat) : Bool := l.all sp
abbrev nW (l : List Nat) : Bool := !isW l
abbrev ind (l : List Nat) : List Nat := l.takeWhile isInd

abbrev PSt := List (List Nat) × List Nat
/-- a word set -/
def stepW (i1 i2 : List Nat) (lim : Int) (wd : List Nat) (wide : Bool) (st : PSt) : PSt :=
  if wd = [] then st else
  let st1 : PSt := if ((xtab 0 (st.2 ++ wd)).length : Int) > lim ∧ st.2 ≠ i1 then (st.1 ++ [rstripL st.2], i2) else st
  (st1.1, if wide then st1.2 ++ wd ++ [32] ++ [32] else st1.2 ++ wd ++ [32])
def goC (i1 i2 : List Nat) (lim : Int) : List (List Nat) → PSt → PSt
  | [], st => st
  | [w], st => stepW i1 i2 lim w false st
  | w :: sep :: r, st => goC i1 i2 lim r (stepW i1 i2 lim w (sep != [32]) st)
def ind2 (i1 : List Nat) (more : List (List Nat)) : List Nat := match more with
  | [] => i1
  | l1 :: _ => if isW l1 then i1 else ind l1
/-- what reformat_paragraph makes of its rows -/
def para (ls : List (List Nat)) (lim : Int) : List (List Nat) :=
  match ls.dropWhile isW with
  | [] => ls
  | l0 :: more =>
    let fin := ((l0 :: more).takeWhile nW).foldl (fun st l => goC (ind l0) (ind2 (ind l0) more) lim (chk l) st) (ls.takeWhile isW, ind l0)
    fin.1 ++ [rstripL fin.2] ++ (l0 :: more).dropWhile nW

/-- the weight of what has been set -/
def wtL (ls : List (List Nat)) : Nat := (ls.map (·.length)).sum + ls.length
def wt (st : PSt) : Nat := wtL st.1 + st.2.length
theorem wtL_nil : wtL [] = 0 := rfl
theorem wtL_cons (l : List Nat) (r : List (List Nat)) : wtL (l :: r) = l.length + 1 + wtL r := by
  unfold wtL; rw [List.map_cons, List.sum_cons, List.length_cons]; omega
theorem wtL_app (a b : List (List Nat)) : wtL (a ++ b) = wtL a + wtL b := by
  unfold wtL; rw [List.map_append, List.sum_append, List.length_append]; omega
theorem wtL_len (a : List (List Nat)) : a.length ≤ wtL a := by unfold wtL; omega
theorem wtL_mem {a : List (List Nat)} {l : List Nat} (h : l ∈ a) : l.length + 1 ≤ wtL a := by
  induction a with
  | nil => cases h
  | cons x r ih =>
    rw [wtL_cons]
    rcases List.mem_cons.mp h with rfl | h
    · omega
    · have := ih h; omega
def sumL (ws : List (List Nat)) : Nat := (ws.map (·.length)).sum
theorem sumL_cons (l : List Nat) (r : List (List Nat)) : sumL (l :: r) = l.length + sumL r := rfl
theorem stepW_wt (i1 i2 : List Nat) (lim : Int) (wd : List Nat) (wide : Bool) (st : PSt) : wt (stepW i1 i2 lim wd wide st) ≤ wt st + (i2.length + 4) * wd.length := by
  unfold stepW
  split
  · rename_i h; subst h; simp
  · rename_i h
    have hp : 1 ≤ wd.length := by cases wd with | nil => exact absurd rfl h | cons c r => simp
    have hm : i2.length + 3 + wd.length ≤ (i2.length + 4) * wd.length := by
      have e : (i2.length + 4) * wd.length = (i2.length + 3) * wd.length + wd.length := by rw [Nat.succ_mul]
      have := Nat.le_mul_of_pos_right (i2.length + 3) hp
      omega
    have hr := rstripL_len st.2
    dsimp only
    split
    · unfold wt
      rw [wtL_app, wtL_cons, wtL_nil]
      split <;> simp only [List.length_append, List.length_singleton] <;> omega
    · unfold wt
      split <;> simp only [List.length_append, List.length_singleton] <;> omega
theorem goC_wt (i1 i2 : List Nat) (lim : Int) : ∀ (ws : List (List Nat)) (st : PSt), wt (goC i1 i2 lim ws st) ≤ wt st + (i2.length + 4) * sumL ws
  | [], st => by unfold goC; omega
  | [w], st => by
    unfold goC
    have := stepW_wt i1 i2 lim w false st
    rw [sumL_cons]; show _ ≤ _ + (i2.length + 4) * (w.length + 0); exact this
  | w :: sep :: r, st => by
    unfold goC
    have h1 := stepW_wt i1 i2 lim w (sep != [32]) st
    have h2 := goC_wt i1 i2 lim r (stepW i1 i2 lim w (sep != [32]) st)
    rw [sumL_cons, sumL_cons, Nat.mul_add, Nat.mul_add]
    omega
theorem chk_sum : ∀ (n : Nat) (l : List Nat), l.length ≤ n → sumL (chk l) = l.length := by
  intro n
  induction n with
  | zero =>
    intro l h
    have : l = [] := List.length_eq_zero_iff.mp (by omega)
    subst this; rfl
  | succ n ih =>
    intro l h
    cases hd : l.dropWhile ns with
    | nil => rw [chk_nil hd]; rfl
    | cons c r =>
      rw [chk_cons hd, sumL_cons, sumL_cons]
      have hc : sp c = true := by have := dropWhile_head hd; simpa [ns] using this
      have e : (c :: r).dropWhile sp = r.dropWhile sp := by rw [List.dropWhile_cons, hc]; rfl
      have h1 := congrArg List.length (List.takeWhile_append_dropWhile (p := ns) (l := l))
      have h2 := congrArg List.length (List.takeWhile_append_dropWhile (p := sp) (l := c :: r))
      have hl2 := dropWhile_length_le sp r
      rw [List.length_append] at h1 h2
      rw [hd, List.length_cons] at h1
      rw [List.length_cons] at h2
      have := ih ((c :: r).dropWhile sp) (by rw [e]; omega)
      rw [this]; omega
theorem goC_chk_wt (i1 i2 : List Nat) (lim : Int) (l : List Nat) (st : PSt) : wt (goC i1 i2 lim (chk l) st) ≤ wt st + (i2.length + 4) * l.length := by
  have := goC_wt i1 i2 lim (chk l) st
  rw [chk_sum _ l (Nat.le_refl _)] at this
  exact this
/-- one pair of the split taken -/
theorem goC_at {i1 i2 : List Nat} {lim : Int} {ws : List (List Nat)} {i : Nat} (h : i < ws.length) (st : PSt) :
    goC i1 i2 lim (ws.drop i) st = goC i1 i2 lim (ws.drop (i + 2)) (stepW i1 i2 lim ws[i] (decide (i + 1 < ws.length) && (ws.getD (i + 1) [] != [32])) st) := by
  rw [List.drop_eq_getElem_cons h]
  by_cases h1 : i + 1 < ws.length
  · rw [List.drop_eq_getElem_cons h1]
    rw [goC]
    have e : ws.getD (i + 1) [] = ws[i + 1] := by rw [List.getD_eq_getElem?_getD, List.getElem?_eq_getElem h1]; rfl
    rw [e, decide_eq_true h1, Bool.true_and]
  · have e : ws.drop (i + 1) = [] := List.drop_of_length_le (by omega)
    have e2 : ws.drop (i + 2) = [] := List.drop_of_length_le (by omega)
    rw [e, e2, decide_eq_false h1, Bool.false_and]
    rfl
end Mine
end

-- W5
section
set_option maxRecDepth 100000
set_option linter.unusedVariables false
set_option Elab.async false
namespace Mine
open PySem PySem.W PyProof.Rows PySem.Calls PySem.Builtin PySem.Builtin.Str

noncomputable section
theorem sz16 : sizeLine = 16777216 := rfl

section
variable {prog : Program} {w : World} {mg mb : Str → Option Value} {A : Around} {E : Value → Shared → Prop} {s : Shared} {h₀ : Heap} {L a : Addr} {l : List (Str × Value)} {nw nw' : List (Addr × Shp)}
  {Q : Value → Shared → Prop} {env : Env} {x y : List Nat} {t u : Tok}

theorem addS (h : ∀ t' k, Q (.str (S (x ++ y)) t') { s with toks := k }) (hsz : x.length + y.length ≤ 16777216) : wpAny (model prog w) A (binaryOp .Add (.str (S x) t) (.str (S y) u)) Q E s := by
  refine P.add_str ?_
  have e0 : ((S x).length == 0) = (x.length == 0) := rfl
  have e1 : ((S y).length == 0) = (y.length == 0) := rfl
  rw [e0, e1]
  by_cases hx : x = []
  · subst hx
    exact h u s.toks
  · have : (x.length == 0) = false := by simpa using hx
    rw [this]
    by_cases hy : y = []
    · subst hy
      have := h t s.toks
      rw [List.append_nil] at this
      exact this
    · have : (y.length == 0) = false := by simpa using hy
      rw [this]
      simp only [Bool.false_eq_true, if_false]
      rw [S_append]
      refine ⟨?_, h _ _⟩
      show (x ++ y).length ≤ sizeLine
      rw [List.length_append, sz16]; exact hsz
theorem lenS (h : ∀ t' k, Q (.int x.length t') { s with toks := k }) (hsz : x.length ≤ 16777216) : wpAny (model prog w) A (call (.builtin "len") [.str (S x) t]) Q E s :=
  P.len_str (by show ¬ ((x.length : Int) ≥ 2 ^ 63); omega) (h _ _)
theorem eqS (h : Q (.bool (x == y)) s) : wpAny (model prog w) A (compareOp .Eq (.str (S x) t) (.str (S y) u)) Q E s := P.eq_str h
theorem neS (h : Q (.bool (x != y)) s) : wpAny (model prog w) A (compareOp .NotEq (.str (S x) t) (.str (S y) u)) Q E s := P.ne_str h
theorem truthyS {Q : Bool → Shared → Prop} (h : ∀ k, Q (x != []) { s with toks := k }) (hsz : x.length ≤ 16777216) : wpAny (model prog w) A (truthy (.str (S x) t)) Q E s := by
  refine P.truthy_str (by show ¬ ((x.length : Int) ≥ 2 ^ 63); omega) ?_
  have : (((S x).length : Int) != 0) = (x != []) := by
    cases x with
    | nil => rfl
    | cons c r =>
      have h1 : (((S (c :: r)).length : Int) != 0) = true := by
        rw [bne_iff_ne]; show ((c :: r).length : Int) ≠ 0; simp; omega
      rw [h1]; rfl
  rw [this]; exact h _
theorem rstripS (h : ∀ t' k, Q (.str (S (rstripL x)) t') { s with toks := k }) (hsz : x.length ≤ 16777216) : wpAny (model prog w) A (call (.builtin "str.rstrip") [.str (S x) t]) Q E s :=
  SC.rstrip (fun t' k => by rw [txt_rstrip]; exact h t' k) hsz
theorem strip_eq_nil (h : ∀ y t' k, (y == []) = x.all sp → Q (.str (S y) t') { s with toks := k }) (hsz : x.length ≤ 16777216) : wpAny (model prog w) A (call (.builtin "str.strip") [.str (S x) t]) Q E s :=
  SC.strip (fun t' k => h _ t' k (txt_strip_nil x)) hsz


theorem news_of {h : Heap} : ∀ nw : List (Addr × Shp), (∀ p ∈ nw, (∃ o, h.get? p.1 = some o ∧ p.2 o) ∧ p.1 ≠ L ∧ h₀.get? p.1 = none) →
    ∃ news : List (Addr × Obj), News h₀ L h news ∧ ∀ h', News h₀ L h' news → ∀ p ∈ nw, (∃ o, h'.get? p.1 = some o ∧ p.2 o) ∧ p.1 ≠ L ∧ h₀.get? p.1 = none
  | [], _ => ⟨[], News.nil, fun _ _ _ hp => (nomatch hp)⟩
  | p :: r, hN => by
    obtain ⟨news, n1, n2⟩ := news_of r fun q hq => hN q (.tail _ hq)
    obtain ⟨⟨o, a1, a2⟩, b, c⟩ := hN p (.head _)
    refine ⟨(p.1, o) :: news, fun q hq => ?_, fun h' N' q hq => ?_⟩
    · rcases List.mem_cons.mp hq with rfl | hq
      · exact ⟨a1, b, c⟩
      · exact n1 q hq
    · rcases List.mem_cons.mp hq with rfl | hq
      · exact ⟨⟨o, (N' _ (.head _)).1, a2⟩, b, c⟩
      · exact n2 h' (fun z hz => N' z (.tail _ hz)) q hq
theorem St.via {h : Heap} (C : St w mg mb h₀ L l nw h) : ∃ m news, Fr h₀ L h m ∧ News h₀ L h news ∧ (∀ h', Fr h₀ L h' m → News h₀ L h' news → St w mg mb h₀ L l nw h') ∧
    (∀ h' o (P : Shp), Fr h₀ L h' m → News h₀ L h' ((h.objs.size, o) :: news) → P o → St w mg mb h₀ L l ((h.objs.size, P) :: nw) h') := by
  obtain ⟨m, F, hm⟩ := C.F
  obtain ⟨news, n1, n2⟩ := news_of nw C.N
  refine ⟨m, news, F, n1, fun h' F' N' => ⟨⟨m, F', hm⟩, n2 h' N', C.D, C.G⟩, fun h' o P F' N' hP => ⟨⟨m, F', hm⟩, fun p hp => ?_, List.nodup_cons.mpr ⟨fun hx => ?_, C.D⟩, C.G⟩⟩
  · rcases List.mem_cons.mp hp with rfl | hp
    · exact ⟨⟨o, (N' _ (.head _)).1, hP⟩, (N' _ (.head _)).2⟩
    · exact n2 h' (fun z hz => N' z (.tail _ hz)) p hp
  · obtain ⟨q, hq, (e : q.1 = _)⟩ := List.mem_map.mp hx
    obtain ⟨⟨o', a1, _⟩, _⟩ := C.N q hq
    rw [e] at a1
    exact absurd (Heap.lt_size a1) (Nat.lt_irrefl _)

/-- split at the line ends -/
theorem splitS {ls : List (List Nat)} (C : St w mg mb h₀ L l nw s.heap) (h0 : ls ≠ []) (hf : ∀ r ∈ ls, 10 ∉ r) (hx : x = joinL ls) (hsz : x.length ≤ 1000000)
    (h : ∀ b h' k, St w mg mb h₀ L l ((b, isT (ls.map S)) :: nw) h' → Q (.ref b) { s with heap := h', toks := k }) :
    wpAny (model prog w) A (call (.builtin "str.split") [.str (S x) t, .str (S [10]) u]) Q E s := by
  subst hx
  obtain ⟨m, news, F, N, _, V⟩ := C.via
  refine splitN1A F N (by decide) (fun vl h' k e1 e2 _ e4 F' N' => ?_) (by show (joinL ls).length + 2 ≤ sizeLine; rw [sz16]; omega)
  rw [e1, txt_split h0 hf] at e2
  exact h _ h' k (V h' _ _ F' N' ⟨_, e2, _, rfl⟩)
/-- split at the white signs -/
theorem split0S (C : St w mg mb h₀ L l nw s.heap) (hsz : x.length ≤ 1000000)
    (h : ∀ b h' k ts, (x.all sp = true ∧ ts = []) ∨ (x.all sp = false ∧ ∃ r, ts = S (word1 x) :: r) → ts.length ≤ 1000002 → St w mg mb h₀ L l ((b, isT ts) :: nw) h' → Q (.ref b) { s with heap := h', toks := k }) :
    wpAny (model prog w) A (call (.builtin "str.split") [.str (S x) t]) Q E s := by
  obtain ⟨m, news, F, N, _, V⟩ := C.via
  refine splitN0A F N (fun vl h' k e1 e2 _ e4 F' N' => ?_) (by show x.length + 2 ≤ sizeLine; rw [sz16]; omega)
  rw [e1] at e2
  have hw := StrLaws.words_weight (S x)
  have hl : (S x).length = x.length := rfl
  exact h _ h' k _ (txt_words x) (by omega) (V h' _ _ F' N' ⟨_, e2, _, rfl⟩)
theorem joinS {b : Addr} {ls : List (List Nat)} (C : St w mg mb h₀ L l nw s.heap) (hm : (b, isT (ls.map S)) ∈ nw) (hsz : (ls.map (·.length)).sum + ls.length ≤ 16777216)
    (h : ∀ t' k, Q (.str (S (joinL ls)) t') { s with toks := k }) : wpAny (model prog w) A (call (.builtin "str.join") [.str (S [10]) t, .ref b]) Q E s := by
  obtain ⟨o, ho, vs, hv, n, rfl⟩ := C.get hm
  refine join_list (ys := ls.map S) ⟨_, ho, rfl, n, rfl⟩ hv ?_ (fun t' k => by rw [txt_join]; exact h t' k)
  rw [List.map_map, List.length_map]
  have e : ((fun x : Str => x.length) ∘ S) = fun r : List Nat => r.length := rfl
  rw [e]
  show _ + ls.length * 1 ≤ _
  omega

theorem lenT {b : Addr} {ts : List Str} (C : St w mg mb h₀ L l nw s.heap) (hm : (b, isT ts) ∈ nw) (hsz : ts.length ≤ 16777216) (h : ∀ t' k, Q (.int ts.length t') { s with toks := k }) :
    wpAny (model prog w) A (call (.builtin "len") [.ref b]) Q E s := by
  obtain ⟨o, ho, vs, hv, n, rfl⟩ := C.get hm
  have e : vs.toArray.size = ts.length := by rw [List.size_toArray]; exact hv.length
  refine len_list ⟨_, ho, rfl, n, rfl⟩ (by rw [e]; omega) ?_
  rw [e]; exact h _ _
theorem getT {b : Addr} {ts : List Str} {k : Int} {z : Str} (C : St w mg mb h₀ L l nw s.heap) (hm : (b, isT ts) ∈ nw) (h0 : 0 ≤ k) (hk : k < 2 ^ 60) (hz : ts[k.toNat]? = some z) (h : ∀ t', Q (.str z t') s) :
    wpAny (model prog w) A (getItem (.ref b) (.int k t)) Q E s := by
  obtain ⟨o, ho, vs, hv, n, rfl⟩ := C.get hm
  obtain ⟨t', ht⟩ := hv.get _ _ hz
  exact getItem_listL ⟨_, ho, rfl, n, rfl⟩ h0 (by omega) ht (h t')
theorem getLastT {b : Addr} {ts : List Str} {z : Str} (C : St w mg mb h₀ L l nw s.heap) (hm : (b, isT (ts ++ [z])) ∈ nw) (h : ∀ t', Q (.str z t') s) :
    wpAny (model prog w) A (getItem (.ref b) (.int (-1) t)) Q E s := by
  obtain ⟨o, ho, vs, hv, n, rfl⟩ := C.get hm
  have hl := hv.length
  rw [List.length_append, List.length_singleton] at hl
  obtain ⟨t', ht⟩ := hv.get ts.length z (by simp)
  have e : vs.toArray.size = ts.length + 1 := by rw [List.size_toArray]; exact hl
  refine wpAny_getItem_list_neg (x := .str z t') ⟨_, ho, rfl, n, rfl⟩ (by decide) (by rw [e]; omega) (by decide) ?_ (h t')
  rw [e]
  have : ((-1 : Int) + ((ts.length + 1 : Nat) : Int)).toNat = ts.length := by omega
  rw [this]; simpa using ht
/-- an item of a list -/
theorem subL {value slice : Expr} {pos : Pos} (h : wpAny (model prog w) A (eval value env) (fun o s₁ => wpAny (model prog w) A (eval slice env) (fun i s₂ => ∃ b k u, o = .ref b ∧ i = .int k u ∧ s₂.TypeIs (.ref b) "list" ∧
      wpAny (model prog w) A (getItem (.ref b) (.int k u)) Q E s₂) E s₁) E s)
    (hs : ∀ b k u, subscripted slice false (.ref b) (.int k u) = operate [.ref b, .int k u] (getItem (.ref b) (.int k u)) := by intro _ _ _; with_unfolding_all rfl) :
    wpAny (model prog w) A (eval (.Subscript value slice pos) env) Q E s := by
  refine Subscript_ (wpAny_mono h (fun o s₁ h₁ => wpAny_mono h₁ (fun i s₂ h₂ => ?_) fun _ _ x => x) fun _ _ x => x)
  obtain ⟨b, k, u, rfl, rfl, hT, hg⟩ := h₂
  exact tail_any hT slot_list_getitem.lookup hg (hs b k u)
theorem typeT {b : Addr} {ts : List Str} (C : St w mg mb h₀ L l nw s.heap) (hm : (b, isT ts) ∈ nw) : s.TypeIs (.ref b) "list" := by
  obtain ⟨o, ho, vs, hv, n, rfl⟩ := C.get hm
  exact ⟨_, ho, rfl⟩
theorem dictT {b : Addr} {ts : List Str} (C : St w mg mb h₀ L l nw s.heap) (hm : (b, isT ts) ∈ nw) : ∀ a, Value.ref b = .ref a → ∃ ob, s.heap.get? a = some ob ∧ ob.dict = none := by
  obtain ⟨o, ho, vs, hv, n, rfl⟩ := C.get hm
  intro a e
  cases e
  exact ⟨_, ho, rfl⟩
/-- where a slice begins and ends -/
abbrev cutA (n : Nat) (lo : Option Int) : Nat := lo.elim 0 (clipAt n)
abbrev cutB (n : Nat) (hi : Option Int) : Nat := hi.elim n (clipAt n)
abbrev cut {α : Type} (x : List α) (lo hi : Option Int) : List α := (x.drop (cutA x.length lo)).take (cutB x.length hi - cutA x.length lo)
theorem cut_from {α : Type} (x : List α) (a : Nat) : cut x (some (a : Int)) none = x.drop a := by
  show (x.drop (clipAt x.length (a : Int))).take (x.length - clipAt x.length (a : Int)) = _
  rw [clipAt_nat]
  rcases Nat.le_total a x.length with h | h
  · rw [Nat.min_eq_left h, List.take_of_length_le (by simp)]
  · rw [Nat.min_eq_right h, List.drop_of_length_le (Nat.le_refl _), List.drop_of_length_le h]; simp
theorem cut_to {α : Type} (x : List α) (a : Nat) : cut x none (some (a : Int)) = x.take a := by
  show (x.drop 0).take (clipAt x.length (a : Int) - 0) = _
  rw [clipAt_nat, List.drop_zero, Nat.sub_zero]
  rcases Nat.le_total a x.length with h | h
  · rw [Nat.min_eq_left h]
  · rw [Nat.min_eq_right h, List.take_of_length_le (Nat.le_refl _), List.take_of_length_le h]
theorem cut_mid {α : Type} (x : List α) (a b : Nat) (hb : b ≤ x.length) : cut x (some (a : Int)) (some (b : Int)) = (x.drop a).take (b - a) := by
  show (x.drop (clipAt x.length (a : Int))).take (clipAt x.length (b : Int) - clipAt x.length (a : Int)) = _
  rw [clipAt_nat, clipAt_nat, Nat.min_eq_left hb]
  rcases Nat.le_total a x.length with h | h
  · rw [Nat.min_eq_left h]
  · rw [Nat.min_eq_right h, List.drop_of_length_le (Nat.le_refl _), List.drop_of_length_le h]; simp
theorem cut_butLast {α : Type} (x : List α) (z : α) : cut (x ++ [z]) none (some (-1)) = x := by
  show ((x ++ [z]).drop 0).take (clipAt (x ++ [z]).length (-((1 : Nat) : Int)) - 0) = _
  rw [clipAt_neg _ _ (by decide), List.drop_zero, Nat.sub_zero, List.length_append, List.length_singleton, Nat.add_sub_cancel, List.take_left]
theorem clip_eq (v : Option Int) (n : Nat) (d : Nat) : (match v with | none => (d : Int) | some i => max 0 (min (if i < 0 then i + n else i) (n : Int))) = ((v.elim d (clipAt n) : Nat) : Int) := by
  cases v with
  | none => rfl
  | some i => exact (clipAt_cast n i).symm
theorem indices_cut (lo hi : Option Int) (n : Nat) : strSliceIndices lo hi 1 n = (List.range (cutB n hi - cutA n lo)).map (cutA n lo + ·) := by
  have h := sliceRange_one (cutA n lo) (cutB n hi)
  rw [← h]
  have e1 := clip_eq lo n 0
  have e2 := clip_eq hi n n
  unfold strSliceIndices
  simp only [show ((1 : Int) > 0) = True from by simp, if_true]
  cases lo <;> cases hi <;> simp [cutA, cutB, clipAt_cast]
theorem slice_cut (x : List Nat) (lo hi : Option Int) : (if ((1 : Int) == 1 && (strSliceIndices lo hi 1 x.length).length == x.length) = true then x else (strSliceIndices lo hi 1 x.length).filterMap ((S x).cps[·]?)) = cut x lo hi := by
  rw [indices_cut, pick_run]
  split
  · rename_i h
    simp only [List.length_map, List.length_range, Bool.and_eq_true, beq_iff_eq] at h
    have hb : cutB x.length hi ≤ x.length := by
      cases hi with
      | none => exact Nat.le_refl _
      | some i => show clipAt x.length i ≤ _; have := clipAt_cast x.length i; omega
    have hal : cutA x.length lo ≤ x.length := by
      cases lo with
      | none => exact Nat.zero_le _
      | some i => show clipAt x.length i ≤ _; have := clipAt_cast x.length i; omega
    have ha : cutA x.length lo = 0 := by omega
    have hc : cutB x.length hi = x.length := by omega
    unfold cut
    rw [ha, hc, List.drop_zero, Nat.sub_zero, List.take_of_length_le (Nat.le_refl _)]
  · rfl
theorem cut_len (x : List Nat) (lo hi : Option Int) : (cut x lo hi).length ≤ x.length := by
  unfold cut; rw [List.length_take, List.length_drop]; omega
theorem sliceS {value : Expr} {lower upper : Option Expr} {p pos : Pos}
    (h : wpAny (model prog w) A (eval value env) (fun o s₁ => wpAny (model prog w) A (evalPart lower env) (fun vl s₂ => wpAny (model prog w) A (evalPart upper env) (fun vu s₃ =>
      ∃ x t lo hi, o = .str (S x) t ∧ vl = partValue lo ∧ vu = partValue hi ∧ x.length ≤ 16777216 ∧
        ∀ t' k h', Kp s₃.heap h' → Q (.str (S (cut x (lo.map (·.1)) (hi.map (·.1)))) t') { s₃ with heap := h', toks := k }) E s₂) E s₁) E s)
    (hs : ∀ x t a, subscripted (.Slice lower upper none p) false (.str x t) (.ref a) = operate [.ref a, .str x t] (getItem (.str x t) (.ref a)) := by intro _ _ _; with_unfolding_all rfl) :
    wpAny (model prog w) A (eval (.Subscript value (.Slice lower upper none p) pos) env) Q E s := by
  refine Subscript_ (wpAny_mono h (fun o s₁ h₁ => wpAny_Slice (wpAny_mono h₁ (fun vl s₂ h₂ => wpAny_mono h₂ (fun vu s₃ h₃ => ?_) fun _ _ x => x) fun _ _ x => x)) fun _ _ x => x)
  obtain ⟨x, t, lo, hi, rfl, rfl, rfl, hsz, hQ⟩ := h₃
  rw [evalPart_none]
  refine wpAny_pure ?_
  refine tail_any (typeIs_str _ (S x) t) F.slot_str_getitem.lookup (wpAny_getItem_str_slice (l := lo) (u := hi) (st := none) ?_ ?_ ?_) (hs _ _ _)
  · exact ⟨_, Heap.get?_push_size _ rfl, rfl, rfl⟩
  · rfl
  have key := slice_cut x (lo.map (·.1)) (hi.map (·.1))
  unfold sliceMade slicePicked
  simp only [Option.map_none, Option.getD_none]
  have e0 : (S x).length = x.length := rfl
  rw [e0]
  split
  · rename_i hc
    rw [if_pos hc] at key
    have := hQ t s₃.toks _ (kp_push s₃.heap { cls := .type "slice", data := .fields #[partValue lo, partValue hi, .none] })
    rw [← key] at this
    exact this
  · rename_i hc
    rw [if_neg hc] at key
    refine ⟨?_, ?_⟩
    · show (List.toArray _).size ≤ sizeLine
      rw [List.size_toArray, key, sz16]
      exact Nat.le_trans (cut_len _ _ _) hsz
    · have := hQ s₃.toks (s₃.toks + 1) _ (kp_push s₃.heap { cls := .type "slice", data := .fields #[partValue lo, partValue hi, .none] })
      rw [← key] at this
      exact this
theorem strsAre_drop {vs : List Value} {ts : List Str} (h : StrsAre vs ts) : ∀ n, StrsAre (vs.drop n) (ts.drop n) := by
  induction h with
  | nil => intro n; simp; exact .nil
  | cons m t r ih =>
    intro n
    cases n with
    | zero => exact .cons m t r
    | succ n => exact ih n
theorem strsAre_take {vs : List Value} {ts : List Str} (h : StrsAre vs ts) : ∀ n, StrsAre (vs.take n) (ts.take n) := by
  induction h with
  | nil => intro n; simp; exact .nil
  | cons m t r ih =>
    intro n
    cases n with
    | zero => exact .nil
    | succ n => exact .cons m t (ih n)
theorem strsAre_app {vs vs' : List Value} {ts ts' : List Str} (h : StrsAre vs ts) (h' : StrsAre vs' ts') : StrsAre (vs ++ vs') (ts ++ ts') := by
  induction h with
  | nil => exact h'
  | cons m t r ih => exact .cons m t ih
theorem slicePick_cut (vs : List Value) (lo hi : Option Int) : slicePick vs.toArray lo hi none = (cut vs lo hi).toArray := by
  rw [slicePick_plain]
  simp only [List.size_toArray]
theorem isPart_map (lo : Option (Int × Tok)) : IsPart (partValue lo) (lo.map (·.1)) := by
  cases lo with
  | none => exact .none
  | some p => exact .int p.1 p.2
/-- a slice of a list -/
theorem sliceL {value : Expr} {lower upper : Option Expr} {p pos : Pos}
    (h : wpAny (model prog w) A (eval value env) (fun o s₁ => wpAny (model prog w) A (evalPart lower env) (fun vl s₂ => wpAny (model prog w) A (evalPart upper env) (fun vu s₃ =>
      ∃ b vs lo hi, o = .ref b ∧ s₃.heap.IsList b vs.toArray ∧ vs.length ≤ 16777216 ∧ vl = partValue lo ∧ vu = partValue hi ∧
        ∀ c h' n, Kp s₃.heap h' → s₃.heap.get? c = none → h'.get? c = some { cls := .type "list", data := .seq (cut vs (lo.map (·.1)) (hi.map (·.1))).toArray n } → Q (.ref c) { s₃ with heap := h' }) E s₂) E s₁) E s)
    (hs : ∀ b a, subscripted (.Slice lower upper none p) false (.ref b) (.ref a) = operate [.ref a, .ref b] (getItem (.ref b) (.ref a)) := by intro _ _; with_unfolding_all rfl) :
    wpAny (model prog w) A (eval (.Subscript value (.Slice lower upper none p) pos) env) Q E s := by
  refine Subscript_ (wpAny_mono h (fun o s₁ h₁ => wpAny_Slice (wpAny_mono h₁ (fun vl s₂ h₂ => wpAny_mono h₂ (fun vu s₃ h₃ => ?_) fun _ _ x => x) fun _ _ x => x)) fun _ _ x => x)
  obtain ⟨b, vs, lo, hi, rfl, hl, hsz, rfl, rfl, hQ⟩ := h₃
  rw [evalPart_none]
  refine wpAny_pure (tail_any (hl.push _).typeIs slot_list_getitem.lookup (wpAny_getItem_list_slice (lo := lo.map (·.1)) (hi := hi.map (·.1)) (st := none) (hl.push _) (Heap.IsSliceOf.new ..) (isPart_map lo) (isPart_map hi) .none (by simp) ?_ (by rw [List.size_toArray, sz16]; exact hsz)) (hs _ _))
  rw [slicePick_cut]
  refine hQ _ _ _ (Kp.trans (kp_push _ _) (kp_push _ _)) ?_ (Heap.get?_push_size _ rfl)
  rw [Heap.size_push]
  cases e : s₃.heap.get? (s₃.heap.objs.size + 1) with
  | none => rfl
  | some o => exact absurd (Heap.lt_size e) (Nat.not_lt.mpr (Nat.le_succ _))
theorem strsAre_cut {vs : List Value} {ts : List Str} (h : StrsAre vs ts) (lo hi : Option Int) : StrsAre (cut vs lo hi) (cut ts lo hi) := by
  unfold cut
  rw [h.length]
  exact strsAre_take (strsAre_drop h _) _
theorem sliceT {value : Expr} {lower upper : Option Expr} {p pos : Pos}
    (h : wpAny (model prog w) A (eval value env) (fun o s₁ => wpAny (model prog w) A (evalPart lower env) (fun vl s₂ => wpAny (model prog w) A (evalPart upper env) (fun vu s₃ =>
      ∃ b ts lo hi l nw, o = .ref b ∧ St w mg mb h₀ L l nw s₃.heap ∧ (b, isT ts) ∈ nw ∧ ts.length ≤ 16777216 ∧ vl = partValue lo ∧ vu = partValue hi ∧
        ∀ c h', St w mg mb h₀ L l ((c, isT (cut ts (lo.map (·.1)) (hi.map (·.1)))) :: nw) h' → Q (.ref c) { s₃ with heap := h' }) E s₂) E s₁) E s)
    (hs : ∀ b a, subscripted (.Slice lower upper none p) false (.ref b) (.ref a) = operate [.ref a, .ref b] (getItem (.ref b) (.ref a)) := by intro _ _; with_unfolding_all rfl) :
    wpAny (model prog w) A (eval (.Subscript value (.Slice lower upper none p) pos) env) Q E s := by
  refine sliceL (wpAny_mono h (fun o s₁ h₁ => wpAny_mono h₁ (fun vl s₂ h₂ => wpAny_mono h₂ (fun vu s₃ h₃ => ?_) fun _ _ x => x) fun _ _ x => x) fun _ _ x => x) hs
  obtain ⟨b, ts, lo, hi, l, nw, rfl, C, hm, hsz, rfl, rfl, hQ⟩ := h₃
  obtain ⟨o, ho, vs, hv, n, rfl⟩ := C.get hm
  refine ⟨b, vs, lo, hi, rfl, ⟨_, ho, rfl, n, rfl⟩, by rw [hv.length]; exact hsz, rfl, rfl, fun c h' n' hk hf hc => hQ c h' ?_⟩
  exact C.add hk hf hc ⟨_, strsAre_cut hv _ _, n', rfl⟩
theorem appendT {b : Addr} {ts : List Str} {z : Str} (C : St w mg mb h₀ L l nw s.heap) (U : Up1 b (isT ts) (isT (ts ++ [z])) nw nw') (hsz : ts.length ≤ 16777216) (h : ∀ h', St w mg mb h₀ L l nw' h' → Q .none { s with heap := h' }) :
    wpAny (model prog w) A (call (.builtin "list.append") [.ref b, .str z t]) Q E s := by
  obtain ⟨o, ho, vs, hv, n, rfl⟩ := C.get U.mem
  refine wpAny_list_append_plain ⟨n, ho⟩ (fun h' hp hs => ?_) (by rw [List.size_toArray, hv.length, sz16]; exact hsz)
  obtain ⟨n', ho'⟩ := hp
  refine h h' (C.up U hs.extBut ho' ⟨vs ++ [.str z t], StrsAre.snoc hv z t, n', ?_⟩)
  simp
theorem extendT {b c : Addr} {ts ts' : List Str} (C : St w mg mb h₀ L l nw s.heap) (hc : (c, isT ts') ∈ nw) (U : Up1 b (isT ts) (isT (ts ++ ts')) nw nw') (hsz : ts.length + ts'.length ≤ 16777216) (h : ∀ h', St w mg mb h₀ L l nw' h' → Q .none { s with heap := h' }) :
    wpAny (model prog w) A (call (.builtin "list.extend") [.ref b, .ref c]) Q E s := by
  obtain ⟨o, ho, vs, hv, n, rfl⟩ := C.get U.mem
  obtain ⟨o2, ho2, vs2, hv2, n2, rfl⟩ := C.get hc
  have hsz' : vs.toArray.size + vs2.toArray.size ≤ sizeLine := by rw [List.size_toArray, List.size_toArray, hv.length, hv2.length, sz16]; exact hsz
  refine call_meets PySem.F.slot_list_extend ⟨_, ho, rfl⟩ PySem.F.entry_list_extend (PySem.F.args_list_extend_2 _ _) (AutoSeq1.list_extend_list_list_0 b vs.toArray n c vs2.toArray n2 (extend_door hsz') (Nat.le_trans (Nat.le_add_right _ _) hsz')) ⟨ho, ho2, ?_⟩
  have ho' : (s.heap.update b (Obj.mapSeq fun x => x ++ vs2.toArray)).get? b = some { cls := .type "list", data := .seq (vs ++ vs2).toArray (if (vs.toArray ++ vs2.toArray).size == vs.toArray.size then n else n + 1) } := by
    rw [Heap.get?_update_self _ ho (by rw [mapSeq_app]; rfl), mapSeq_app]
    simp
  exact h _ (C.up U (Heap.SameBut.extBut (Heap.SameBut.update ..)) ho' ⟨vs ++ vs2, strsAre_app hv hv2, _, rfl⟩)
theorem strsAre_set {z z' : Str} : ∀ (ts : List Str) {vs : List Value}, StrsAre vs (ts ++ [z]) → StrsAre (vs.set ts.length (.str z' u)) (ts ++ [z'])
  | [], vs, h => by
    cases h with
    | cons m t r => cases r; exact .cons _ _ .nil
  | x :: ts, vs, h => by
    cases h with
    | cons m t r => exact .cons _ _ (strsAre_set ts r)
theorem setLastT {b : Addr} {ts : List Str} {z z' : Str} {Q : Unit → Shared → Prop} (C : St w mg mb h₀ L l nw s.heap) (U : Up1 b (isT (ts ++ [z])) (isT (ts ++ [z'])) nw nw') (h : ∀ h', St w mg mb h₀ L l nw' h' → Q () { s with heap := h' }) :
    wpAny (model prog w) A (setItem (.ref b) (.int (-1) t) (.str z' u)) Q E s := by
  obtain ⟨o, ho, vs, hv, n, rfl⟩ := C.get U.mem
  have hlen := hv.length
  rw [List.length_append, List.length_singleton] at hlen
  have hsz : vs.toArray.size = ts.length + 1 := by rw [List.size_toArray]; exact hlen
  refine ki_setBack ho (by decide) (by rw [hsz]; omega) (by decide) ?_
  have e : ((-1 : Int) + (vs.toArray.size : Int)).toNat = ts.length := by rw [hsz]; omega
  rw [e]
  have ho' : (s.heap.update b (Obj.mapSeq (·.setIfInBounds ts.length (.str z' u)))).get? b = some { cls := .type "list", data := .seq (vs.set ts.length (.str z' u)).toArray n } := by
    rw [Heap.get?_update_self _ ho rfl]
    show some ({ cls := _, data := .seq (vs.toArray.setIfInBounds ts.length (.str z' u)) (if (vs.toArray.setIfInBounds ts.length (.str z' u)).size == vs.toArray.size then n else n + 1) } : Obj) = _
    simp
  exact h _ (C.up U (Heap.SameBut.extBut (Heap.SameBut.update ..)) ho' ⟨vs.set ts.length (.str z' u), strsAre_set ts hv, _, rfl⟩)
end
end
end Mine
end

-- W6
section
set_option maxRecDepth 100000
set_option linter.unusedVariables false
set_option Elab.async false
namespace Mine
open PySem PySem.W PyProof.Rows PySem.Calls PySem.Builtin PySem.Builtin.Str

noncomputable section
theorem fill3 : (PySem.Challenge.rw_lg0018_01, hd.heap_39) = (PySem.Challenge.rw_lg0018_01, hd.heap_39) := by k_fill; rfl
theorem constS {M : Model} {A : Around} {E : Value → Shared → Prop} {s : Shared} {env : Env} {Q : Value → Shared → Prop} {c : Str} {k : Nat} {pos : Pos} {x : List Nat} (e : c = S x) (h : ∀ t k, Q (.str (S x) t) { s with toks := k }) :
    wpAny M A (eval (.Constant (.str c) k pos) env) Q E s := by subst e; exact wpAny_Constant_str (h _ _)
/-- nothing but heap and marks has changed -/
abbrev SameO (s₀ s : Shared) : Prop := s.gens = s₀.gens ∧ s.drawn = s₀.drawn ∧ s.os = s₀.os
theorem SameO.refl (s : Shared) : SameO s s := ⟨rfl, rfl, rfl⟩
theorem SameO.eq {s₀ s : Shared} (O : SameO s₀ s) : s = { s₀ with heap := s.heap, toks := s.toks } := by
  obtain ⟨h, g, d, k, o⟩ := s
  obtain ⟨h0, g0, d0, k0, o0⟩ := s₀
  obtain ⟨a, b, c⟩ := O
  simp only at a b c
  subst a b c
  rfl
def SubN : List (Str × Value) → List (Str × Value) → Prop
  | [], _ => True
  | p :: r, l => l.lookup p.1 = some p.2 ∧ SubN r l
theorem SubN.get {l : List (Str × Value)} : ∀ {l' : List (Str × Value)}, SubN l' l → ∀ x v, l'.lookup x = some v → l.lookup x = some v
  | [], _, _, _, e => by cases e
  | (y, z) :: r, h, x, v, e => by
    rw [List.lookup_cons] at e
    split at e
    · rename_i hb
      have hx : x = y := by simpa using hb
      cases e
      rw [hx]; exact h.1
    · exact h.2.get x v e
section
variable {prog : Program} {w : World} {mg mb : Str → Option Value} {A : Around} {E : Value → Shared → Prop} {s s₀ : Shared} {h₀ : Heap} {L a : Addr} {l l' : List (Str × Value)} {nw nw' : List (Addr × Shp)} {cn : Str} {cs : Scope} {ccd : Value} {cl : List (Str × Addr)}
  {x : Str} {v : Value}
theorem stX {Q : Unit → Shared → Prop} (C : St w mg mb h₀ L l nw s.heap) (O : SameO s₀ s) (h : ∀ s', St w mg mb h₀ L ((x, v) :: l) nw s'.heap → SameO s₀ s' → Q () s')
    (hk : cs.kind = .function := by rfl) (hx : (envX cn cs L a ccd cl).kindOf x = some .local := by rfl) : wpAny (model prog w) A (storeName (envX cn cs L a ccd cl) x v) Q E s :=
  stL C (fun h' C' => h _ C' O) hk hx
theorem St.sub {h : Heap} (C : St w mg mb h₀ L l nw h) (hs : SubN l' l) : St w mg mb h₀ L l' nw h := C.names hs.get
end
section
variable {prog : Program} {w : World} {mg mb : Str → Option Value} {A : Around} {E : Value → Shared → Prop} {s s₀ : Shared} {h₀ : Heap} {L a : Addr} {l l' : List (Str × Value)} {nw nw' : List (Addr × Shp)} {cn : Str} {cs : Scope} {ccd : Value} {cl : List (Str × Addr)}
  {x : Str} {v : Value} {env : Env} {Q : Flow → Shared → Prop}
/-- a while by an invariant and a measure -/
theorem while_inv {test : Expr} {body : List Stmt} {pos : Pos} (I : Nat → Shared → Prop) (J : Shared → Prop)
    (turn : ∀ n s, I n s → wpAny (model prog w) A (isTrue test env (eval test env)) (fun b s₂ =>
        if b = true then wpAny (model prog w) A (execs body env) (fun f s₃ => (f = .next ∨ f = .cont) ∧ ∃ m, m < n ∧ I m s₃) (fun _ _ => False) s₂ else J s₂) (fun _ _ => False) s)
    (n : Nat) (h : I n s) (exit : ∀ s', J s' → Q .next s') : wpAny (model prog w) A (exec (.While test body [] pos) env) Q E s := by
  refine wpAny_While (codeAny_whileLoop I (fun n s hI => ?_) n h)
  refine wpAny_mono (turn n s hI) (fun b s₂ h₂ => ?_) fun _ _ x => x.elim
  cases b with
  | true =>
    simp only [if_true] at h₂ ⊢
    refine wpAny_mono h₂ (fun f s₃ h₃ => ?_) fun _ _ x => x.elim
    obtain ⟨rfl | rfl, h₃⟩ := h₃ <;> exact h₃
  | false =>
    simp only [Bool.false_eq_true, if_false] at h₂ ⊢
    exact wpAny_execs_nil (exit _ h₂)
/-- a for over a list that stays -/
theorem for_list {iter : Expr} {body : List Stmt} {px pos : Pos} {b : Addr} {vs : List Value} (hh : A.handled = none) (J : Addr → Nat → Shared → Prop)
    (hit : wpAny (model prog w) A (eval iter (envX cn cs L a ccd cl)) (fun v s₁ => v = .ref b ∧ ∃ l nw, St w mg mb h₀ L l nw s₁.heap ∧ SameO s₀ s₁ ∧ s₁.heap.IsList b vs.toArray ∧
      ∀ it s₂, St w mg mb h₀ L l ((it, isLI b 0) :: nw) s₂.heap → SameO s₀ s₂ → Kp s₁.heap s₂.heap → J it 0 s₂) E s)
    (hJ : ∀ it i s, i ≤ vs.length → J it i s → ∃ l nw, St w mg mb h₀ L l ((it, isLI b i) :: nw) s.heap ∧ SameO s₀ s ∧ s.heap.IsList b vs.toArray ∧ b ≠ it ∧
      (∀ v s', vs[i]? = some v → St w mg mb h₀ L ((x, v) :: l) ((it, isLI b (i + 1)) :: nw) s'.heap → SameO s₀ s' →
        wpAny (model prog w) A (execs body (envX cn cs L a ccd cl)) (fun f s₃ => (f = .next ∨ f = .cont) ∧ J it (i + 1) s₃) (fun _ _ => False) s') ∧
      (∀ s', i = vs.length → St w mg mb h₀ L l nw s'.heap → SameO s₀ s' → Q .next s'))
    (hk : cs.kind = .function := by rfl) (hx : (envX cn cs L a ccd cl).kindOf x = some .local := by rfl)
    (hs : ∀ x, foldedSetIterable iter (envX cn cs L a ccd cl) x = pure x := by intro _; rfl) :
    wpAny (model prog w) A (exec (.For (.Name x px) iter body [] pos) (envX cn cs L a ccd cl)) Q E s := by
  refine wpAny_For (wpAny_mono hit (fun v s₁ h₁ => ?_) fun _ _ x => x) hs
  obtain ⟨rfl, l, nw, C, O, hl, h0⟩ := h₁
  refine wpAny_pyIter_list hl ?_
  have C' := C.push (P := isLI b 0) (o := { cls := .type "list_iterator", data := .fields #[.ref b, .int 0 0] }) ⟨rfl, rfl⟩
  refine codeAny_forLoop (fun n s' => ∃ i, i ≤ vs.length ∧ n = vs.length + 1 - i ∧ J s₁.heap.objs.size i s') ?_ (vs.length + 1) ⟨0, Nat.zero_le _, rfl, h0 _ _ C' O (kp_push _ _)⟩
  rintro n s' ⟨i, hi, rfl, hj⟩
  obtain ⟨l, nw, C, O, hl, hne, hbody, hexit⟩ := hJ _ i s' hi hj
  obtain ⟨o, ho, hc, hd⟩ := C.get (.head _)
  by_cases hlt : i < vs.length
  · refine wpAny_pyNext_list_item (x := vs[i]) ⟨o, ho, hc, hd⟩ hl (by simp [hlt]) (fun h' hit' hsb => ?_)
    obtain ⟨o', ho', hc', hd'⟩ := hit'
    have C2 := C.up (P' := isLI b (i + 1)) .head hsb.extBut ho' ⟨hc', hd'⟩
    refine wpAny_assign_Name (stX (s₀ := s₀) C2 O (fun s₂ C O => ?_) hk hx)
    refine wpAny_mono (hbody _ s₂ (by simp [hlt]) C O) (fun f s₃ h₃ => ?_) fun _ _ x => x.elim
    obtain ⟨hf, h₃⟩ := h₃
    have : ∃ m, m < vs.length + 1 - i ∧ ∃ i, i ≤ vs.length ∧ m = vs.length + 1 - i ∧ J s₁.heap.objs.size i s₃ := ⟨vs.length + 1 - (i + 1), by omega, i + 1, hlt, rfl, h₃⟩
    rcases hf with rfl | rfl <;> exact this
  · have hie : i = vs.length := by omega
    refine wpAny_pyNext_list_end hh ⟨o, ho, hc, hd⟩ hl (by simp [hie]) (fun h' hx => ?_)
    exact wpAny_execs_nil (hexit _ hie (C.lose hx) O)
theorem rsize2 (n : Nat) : Builtin.Range.rangeSize 0 (n : Int) 2 = (((n + 1) / 2 : Nat) : Int) := by
  unfold Builtin.Range.rangeSize
  rw [if_pos (by decide)]
  split <;> omega
theorem rsize1 (n : Nat) : Builtin.Range.rangeSize 0 (n : Int) 1 = (n : Int) := by
  unfold Builtin.Range.rangeSize
  rw [if_pos (by decide)]
  split <;> omega
/-- a for over a range from nought -/
theorem for_range {iter : Expr} {body : List Stmt} {px pos : Pos} {N : Nat} {c : Int} (hh : A.handled = none) (J : Addr → Nat → Shared → Prop)
    (hit : wpAny (model prog w) A (eval iter (envX cn cs L a ccd cl)) (fun v s₁ => ∃ r e t u z l nw, v = .ref r ∧ IsRange s₁.heap r 0 e c t u z ∧ Builtin.Range.small 0 e c = true ∧ Builtin.Range.rangeSize 0 e c = (N : Int) ∧ St w mg mb h₀ L l nw s₁.heap ∧ SameO s₀ s₁ ∧
      ∀ it s₂, St w mg mb h₀ L l ((it, isRI ((0 : Nat) * c) ((N : Int) - (0 : Nat)) c) :: nw) s₂.heap → SameO s₀ s₂ → Kp s₁.heap s₂.heap → J it 0 s₂) E s)
    (hJ : ∀ it i s, i ≤ N → J it i s → ∃ l nw, St w mg mb h₀ L l ((it, isRI (i * c) ((N : Int) - i) c) :: nw) s.heap ∧ SameO s₀ s ∧
      (∀ t s', i < N → St w mg mb h₀ L ((x, .int (i * c) t) :: l) ((it, isRI ((i + 1 : Nat) * c) ((N : Int) - (i + 1 : Nat)) c) :: nw) s'.heap → SameO s₀ s' →
        wpAny (model prog w) A (execs body (envX cn cs L a ccd cl)) (fun f s₃ => (f = .next ∨ f = .cont) ∧ J it (i + 1) s₃) (fun _ _ => False) s') ∧
      (∀ s', i = N → St w mg mb h₀ L l nw s'.heap → SameO s₀ s' → Q .next s'))
    (hk : cs.kind = .function := by rfl) (hx : (envX cn cs L a ccd cl).kindOf x = some .local := by rfl)
    (hs : ∀ x, foldedSetIterable iter (envX cn cs L a ccd cl) x = pure x := by intro _; rfl) :
    wpAny (model prog w) A (exec (.For (.Name x px) iter body [] pos) (envX cn cs L a ccd cl)) Q E s := by
  refine wpAny_For (wpAny_mono hit (fun v s₁ h₁ => ?_) fun _ _ x => x) hs
  obtain ⟨r, e, t, u, z, l, nw, rfl, hr, hsm, hsize, C, O, h0⟩ := h₁
  refine wpAny_pyIter_range hr hsm ?_
  have C' := C.push (P := isRI ((0 : Nat) * c) ((N : Int) - (0 : Nat)) c) (o := { cls := .type "range_iterator", data := .fields #[rawInt 0, rawInt (Builtin.Range.rangeSize 0 e c), rawInt c] }) (by rw [hsize]; simp)
  refine codeAny_forLoop (fun n s' => ∃ i, i ≤ N ∧ n = N + 1 - i ∧ J s₁.heap.objs.size i s') ?_ (N + 1) ⟨0, Nat.zero_le _, rfl, h0 _ _ C' O (kp_push _ _)⟩
  rintro n s' ⟨i, hi, rfl, hj⟩
  obtain ⟨l, nw, C, O, hbody, hexit⟩ := hJ _ i s' hi hj
  obtain ⟨o, ho, ho2⟩ := C.get (.head _)
  have ho3 : o = _ := ho2
  subst ho3
  by_cases hlt : i < N
  · refine wpAny_pyNext_range_item ho (by omega) (fun h' hit' hsb => ?_)
    have e1 : (i : Int) * c + c = ((i + 1 : Nat) : Int) * c := by rw [Int.natCast_add, Int.add_mul]; simp
    have e2 : (N : Int) - i - 1 = (N : Int) - (i + 1 : Nat) := by omega
    rw [e1, e2] at hit'
    have C2 := C.up (P' := isRI ((i + 1 : Nat) * c) ((N : Int) - (i + 1 : Nat)) c) .head hsb.extBut hit' rfl
    refine wpAny_assign_Name (stX (s₀ := s₀) C2 O (fun s₂ C O => ?_) hk hx)
    refine wpAny_mono (hbody _ s₂ hlt C O) (fun f s₃ h₃ => ?_) fun _ _ x => x.elim
    obtain ⟨hf, h₃⟩ := h₃
    have : ∃ m, m < N + 1 - i ∧ ∃ i, i ≤ N ∧ m = N + 1 - i ∧ J s₁.heap.objs.size i s₃ := ⟨N + 1 - (i + 1), by omega, i + 1, hlt, rfl, h₃⟩
    rcases hf with rfl | rfl <;> exact this
  · have hie : i = N := by omega
    refine wpAny_pyNext_range_end hh ho (by omega) (fun h' hx => ?_)
    exact wpAny_execs_nil (hexit _ hie (C.lose hx) O)
end
end
end Mine
end

-- W7
section
set_option maxRecDepth 100000
set_option linter.unusedVariables false
set_option Elab.async false
namespace Mine
open PySem PySem.W PyProof.Rows PySem.Calls PySem.Builtin PySem.Builtin.Str

noncomputable section
theorem fill4 : (PySem.Challenge.rw_lg0018_01, hd.heap_39) = (PySem.Challenge.rw_lg0018_01, hd.heap_39) := by k_fill; rfl

theorem noNl_S {l : List Nat} (h : 10 ∉ l) : noNl (S l) := by
  intro q e
  rw [Array.getD_eq_getD_getElem?] at e
  by_cases hq : q < l.length
  · have : (S l).cps[q]? = some l[q] := by show l.toArray[q]? = _; simp [hq]
    rw [this] at e
    exact h (by rw [← (show l[q] = 10 from e)]; exact List.getElem_mem hq)
  · have : (S l).cps[q]? = none := by show l.toArray[q]? = _; simp; omega
    rw [this] at e
    cases e
theorem tw_next {p : List Nat → Bool} : ∀ {ls : List (List Nat)} {i : Nat} (_ : i ≤ (ls.takeWhile p).length) (hi : i < ls.length), if p ls[i] = true then i + 1 ≤ (ls.takeWhile p).length else i = (ls.takeWhile p).length
  | [], i, _, hi => absurd hi (Nat.not_lt_zero _)
  | l :: r, 0, h, hi => by
    rw [List.takeWhile_cons]
    show if p l = true then _ else _
    split
    · simp
    · rfl
  | l :: r, i + 1, h, hi => by
    rw [List.takeWhile_cons] at h ⊢
    split at h
    · rename_i hp
      rw [if_pos hp]
      have := tw_next (p := p) (ls := r) (i := i) (by simpa using h) (by simpa using hi)
      have hir : i < r.length := by simpa using hi
      show if p (r[i]'hir) = true then _ else _
      split at this
      · rename_i h2; rw [if_pos h2]; simp; exact this
      · rename_i h2; rw [if_neg h2]; simp; exact this
    · simp at h
theorem tw_le (p : List Nat → Bool) : ∀ (ls : List (List Nat)), (ls.takeWhile p).length ≤ ls.length
  | [] => Nat.le_refl _
  | l :: r => by rw [List.takeWhile_cons]; split <;> simp; exact tw_le p r
theorem tw_drop (p : List Nat → Bool) : ∀ (ls : List (List Nat)), ls.drop (ls.takeWhile p).length = ls.dropWhile p
  | [] => rfl
  | l :: r => by
    rw [List.takeWhile_cons, List.dropWhile_cons]
    split
    · simp [tw_drop p r]
    · rfl
theorem tw_take (p : List Nat → Bool) : ∀ (ls : List (List Nat)), ls.take (ls.takeWhile p).length = ls.takeWhile p
  | [] => rfl
  | l :: r => by
    rw [List.takeWhile_cons]
    split
    · simp [tw_take p r]
    · rfl
theorem joinL_len : ∀ ls : List (List Nat), (joinL ls).length ≤ wtL ls
  | [] => Nat.le_refl _
  | [l] => by show l.length ≤ _; rw [wtL_cons]; omega
  | l :: k :: r => by
    have := joinL_len (k :: r)
    show (l ++ 10 :: joinL (k :: r)).length ≤ _
    rw [List.length_append, List.length_cons, wtL_cons]; omega
theorem small2 {n : Nat} (h : n ≤ 1000000) : Builtin.Range.small 0 (n : Int) 2 = true := by
  unfold Builtin.Range.small
  rw [rsize2]
  unfold Builtin.Range.rangeFitsLong
  simp only [Bool.and_eq_true, Bool.or_eq_true, decide_eq_true_eq, beq_iff_eq, if_pos (show (2 : Int) > 0 by decide)]
  omega
theorem small1 {n : Nat} (h : n ≤ 1000000) : Builtin.Range.small 0 (n : Int) 1 = true := by
  unfold Builtin.Range.small
  rw [rsize1]
  unfold Builtin.Range.rangeFitsLong
  simp only [Bool.and_eq_true, Bool.or_eq_true, decide_eq_true_eq, beq_iff_eq, if_pos (show (1 : Int) > 0 by decide)]
  omega
theorem get_map {ls : List (List Nat)} {i : Nat} (h : i < ls.length) : (ls.map S)[i]? = some (S ls[i]) := by simp [h]
theorem sumL_app (a b : List (List Nat)) : sumL (a ++ b) = sumL a + sumL b := by unfold sumL; rw [List.map_append, List.sum_append]
theorem sumL_wt (a : List (List Nat)) : sumL a ≤ wtL a := by unfold sumL wtL; omega
theorem fold_wt (i1 i2 : List Nat) (lim : Int) : ∀ (ls : List (List Nat)) (st : PSt), wt (ls.foldl (fun st l => goC i1 i2 lim (chk l) st) st) ≤ wt st + (i2.length + 4) * sumL ls
  | [], st => by simp
  | l :: r, st => by
    have h1 := goC_chk_wt i1 i2 lim l st
    have h2 := fold_wt i1 i2 lim r (goC i1 i2 lim (chk l) st)
    rw [List.foldl_cons, sumL_cons, Nat.mul_add]; omega

section
variable {prog : Program} {w : World} {mg mb : Str → Option Value} {A : Around} {E : Value → Shared → Prop} {s s₀ : Shared} {env : Env}
theorem partN {Q : Value → Shared → Prop} (h : Q .none s) : wpAny (model prog w) A (evalPart none env) Q E s := wpAny_pure h
theorem partE {e : Expr} {Q : Value → Shared → Prop} (h : wpAny (model prog w) A (eval e env) Q E s) : wpAny (model prog w) A (evalPart (some e) env) Q E s := h
theorem seqJ {st : Stmt} {rest : List Stmt} {Q : Flow → Shared → Prop} (J : Shared → Prop) (h1 : wpAny (model prog w) A (exec st env) (fun f s' => f = .next ∧ J s') (fun _ _ => False) s)
    (h2 : ∀ s', J s' → wpAny (model prog w) A (execs rest env) Q E s') : wpAny (model prog w) A (execs (st :: rest) env) Q E s := by
  refine wpAny_execs_cons (wpAny_mono h1 (fun f s' h' => ?_) fun _ _ x => x.elim)
  obtain ⟨rfl, hj⟩ := h'
  exact h2 s' hj
theorem splitRe {h₀ : Heap} {L : Addr} {l : List (Str × Value)} {nw : List (Addr × Shp)} {x : List Nat} {t : Tok} {Q : Value → Shared → Prop} (C : St w mg mb h₀ L l nw s.heap) (hx : x.length ≤ 1000000)
    (h : ∀ b h' k, St w mg mb h₀ L l ((b, isT ((chk x).map S)) :: nw) h' → Q (.ref b) { s with heap := h', toks := k }) : wpAny (model prog w) A (call (.builtin "re.Pattern.split") [.ref 36, .str (S x) t]) Q E s := by
  obtain ⟨pat, fl, c, codeV, n, e1, e2, e3⟩ := pat1 C.gd
  exact wp_split e1 e2 e3 hx (fun vs tk hvs => h _ _ _ (C.push ⟨vs, hvs, _, rfl⟩))
theorem typePat1 {h₀ : Heap} {L : Addr} {l : List (Str × Value)} {nw : List (Addr × Shp)} (C : St w mg mb h₀ L l nw s.heap) : s.TypeIs (.ref 36) "re.Pattern" ∧ (∀ a, Value.ref 36 = .ref a → ∃ ob, s.heap.get? a = some ob ∧ ob.dict = none) := by
  obtain ⟨pat, fl, c, codeV, n, e1, e2, e3⟩ := pat1 C.gd
  exact ⟨⟨_, e1, rfl⟩, fun a ha => ⟨_, by cases ha; exact e1, rfl⟩⟩
theorem ite_t {c : Prop} [Decidable c] {P R : Prop} (hc : c) (h : P) : if c then P else R := by rw [if_pos hc]; exact h
theorem ite_f {c : Prop} [Decidable c] {P R : Prop} (hc : ¬ c) (h : R) : if c then P else R := by rw [if_neg hc]; exact h
end

section
variable {prog : Program} {w : World} {mg mb : Str → Option Value} {A : Around} {E : Value → Shared → Prop} {s : Shared} {t u : Tok} {Q : Value → Shared → Prop}

set_option maxHeartbeats 4000000 in
theorem para_spec {ls : List (List Nat)} {lim : Int} (G : Gd w mg mb s.heap) (hroom : A.depth + 5 < recursionLimit) (hh : A.handled = none) (h0 : ls ≠ []) (hf : ∀ l ∈ ls, 10 ∉ l) (hw : wtL ls ≤ 10000) (hi : ∀ l ∈ ls, (ind l).length ≤ 20)
   (h : ∀ h' tk t', Kp s.heap h' → Q (.str (S (joinL (para ls lim))) t') { s with heap := h', toks := tk }) :
   wpAny (model prog w) A (call (.ref 53) [.str (S (joinL ls)) t, .int lim u]) Q E s := by
  have hlen := wtL_len ls
  have hjl := joinL_len ls
  have hgl : ∀ i (h : i < ls.length), ls[i].length ≤ 10000 := fun i h => by have := wtL_mem (List.getElem_mem h); omega
  have hnl : ∀ i (h : i < ls.length), noNl (S ls[i]) := fun i h => noNl_S (hf _ (List.getElem_mem h))
  refine' call_fn3 (f := 53) (binds := [(Str.ofString "data", .str (S (joinL ls)) t), (Str.ofString "limit", .int lim u)]) G (by omega) ?ho ?hcd ?hb ?hl ?hc ?h1 ?h2 ?h3 ?_
  case ho => k_is
  case hcd => k_is
  case hb => exact rfl
  case hl => exact rfl
  case hc => exact rfl
  case h1 => exact rfl
  case h2 => exact rfl
  case h3 => exact rfl
  intro L h₁ tk C
  have O : SameO s { s with heap := h₁, toks := tk } := SameO.refl s
  refine wpAny_execs_cons (wpAny_Assign_Name ?_)
  refine meth1 F.plainAttrs_str F.slot_str_split F.type_str_split ?_
  refine rdL C rfl ?_
  refine ⟨typeIs_str _ _ _, fun a ha => (nomatch ha), sp1 (constS (x := [10]) (by decide +kernel) fun t1 k1 => ?_)⟩
  refine splitS C h0 hf rfl (by omega) (fun bl h' k C => ?_)
  refine stX C O (fun s₁ C O => ?_)
  refine wpAny_execs_cons (wpAny_Assign_Name (wpAny_Constant_int (stX C O fun s₂ C O => ?_)))
  refine wpAny_execs_cons (wpAny_Assign_Name ?_)
  refine callB C (by k_is) (by boot_fast) (sp1 (rdL C rfl ?_))
  refine lenT C (.head _) (by rw [List.length_map]; omega) fun t2 k2 => ?_
  refine stX C O (fun s₃ C O => ?_)
  rw [List.length_map] at C
  have hn0 := tw_le isW ls
  -- the white rows ahead
  refine seqJ (fun s' => ∃ ti, St w mg mb s.heap L [(Str.ofString "i", .int ((ls.takeWhile isW).length : Nat) ti), (Str.ofString "n", .int ls.length t2), (Str.ofString "lines", .ref bl), (Str.ofString "data", .str (S (joinL ls)) t), (Str.ofString "limit", .int lim u)] [(bl, isT (ls.map S))] s'.heap ∧ SameO s s') ?_ ?_
  · refine while_inv (fun n s' => ∃ i ti, St w mg mb s.heap L [(Str.ofString "i", .int (i : Nat) ti), (Str.ofString "n", .int ls.length t2), (Str.ofString "lines", .ref bl), (Str.ofString "data", .str (S (joinL ls)) t), (Str.ofString "limit", .int lim u)] [(bl, isT (ls.map S))] s'.heap ∧ SameO s s' ∧
      n = ls.length - i ∧ i ≤ (ls.takeWhile isW).length) _ ?_ ls.length ⟨0, _, C.sub ⟨rfl, rfl, rfl, rfl, rfl, trivial⟩, O, rfl, Nat.zero_le _⟩ (fun s' hs' => ⟨rfl, hs'⟩)
    clear C O
    rintro n s' ⟨i, ti, C, O, rfl, hile⟩
    refine isTrue_and (wpAny_isTrue_Compare1 (rdL C rfl (rdL C rfl (P.lt_int (wpAny_truthy_bool ?_)))))
    by_cases hlt : i < ls.length
    · rw [decide_eq_true (show (i : Int) < ls.length by omega), if_pos rfl]
      refine isTrue_and (isTrue_plain (callK C (by k_is) (by k_is) (sp1 (subL (rdL C rfl (rdL C rfl ⟨bl, _, _, rfl, rfl, typeT C (.head _), getT C (.head _) (by omega) (by omega) (get_map hlt) fun t3 => ⟨C.gd.X, ?_⟩⟩))))))
      refine is_all_white_spec C.gd (by show A.depth + 1 < _; omega) (by show ls[i].length ≤ sizeLine; have := hgl i hlt; rw [sz16]; omega) (hnl i hlt) (fun h' k' hk => wpAny_truthy_bool ?_)
      have C := C.keeps hk
      have hst := tw_next hile hlt
      show if isW ls[i] = true then _ else _
      by_cases hwh : isW ls[i] = true
      · rw [if_pos hwh]; rw [if_pos hwh] at hst
        refine isTrue_and_nil ?_
        rw [if_pos rfl]
        refine wpAny_execs_cons (wpAny_Assign_Name (wpAny_BinOp (rdL C rfl (wpAny_Constant_int (P.add_int (stX C O fun s₄ C O => wpAny_execs_nil ?_))))))
        exact ⟨.inl rfl, _, by omega, i + 1, _, C.sub ⟨rfl, rfl, rfl, rfl, rfl, trivial⟩, O, rfl, hst⟩
      · rw [if_neg hwh]; rw [if_neg hwh] at hst
        rw [if_neg Bool.false_ne_true]
        subst hst
        exact ⟨_, C, O⟩
    · have hie : i = (ls.takeWhile isW).length := by omega
      subst hie
      rw [decide_eq_false (by omega), if_neg Bool.false_ne_true, if_neg Bool.false_ne_true]
      exact ⟨_, C, O⟩
  clear C O
  rintro s₄ ⟨ti, C, O⟩
  have hdrop := tw_drop isW ls
  have htake := tw_take isW ls
  have hpara : para ls lim = match ls.dropWhile isW with
    | [] => ls
    | l0 :: more =>
      let fin := ((l0 :: more).takeWhile nW).foldl (fun st l => goC (ind l0) (ind2 (ind l0) more) lim (chk l) st) (ls.takeWhile isW, ind l0)
      fin.1 ++ [rstripL fin.2] ++ (l0 :: more).dropWhile nW := rfl
  generalize hi0 : (ls.takeWhile isW).length = i0 at *
  refine wpAny_execs_cons (wpAny_If (wpAny_isTrue_Compare1 (rdL C rfl (rdL C rfl (P.ge_int (wpAny_truthy_bool ?_))))))
  by_cases hall : ls.length ≤ i0
  · rw [decide_eq_true (show (i0 : Int) ≥ ls.length by omega), if_pos rfl]
    refine wpAny_execs_cons (wpAny_Return_some (rdL C rfl ?_))
    have hnil : ls.dropWhile isW = [] := by rw [← hdrop]; exact List.drop_of_length_le hall
    rw [hnil] at hpara
    have hpara : para ls lim = ls := hpara
    rw [hpara] at h
    rw [O.eq]
    exact h _ _ _ C.kp
  have hlt : i0 < ls.length := by omega
  rw [decide_eq_false (by omega), if_neg Bool.false_ne_true]
  refine wpAny_execs_nil ?_
  show wpAny _ _ (execs _ _) _ _ _
  rw [List.drop_eq_getElem_cons hlt] at hdrop
  rw [← hdrop] at hpara
  have hpara : para ls lim = (let fin := ((ls[i0] :: ls.drop (i0 + 1)).takeWhile nW).foldl (fun st l => goC (ind ls[i0]) (ind2 (ind ls[i0]) (ls.drop (i0 + 1))) lim (chk l) st) (ls.takeWhile isW, ind ls[i0])
      fin.1 ++ [rstripL fin.2] ++ (ls[i0] :: ls.drop (i0 + 1)).dropWhile nW) := hpara
  -- the indents
  refine wpAny_execs_cons (wpAny_Assign_Name (callK C (by k_is) (by k_is) (sp1 (subL (rdL C rfl (rdL C rfl ⟨bl, _, _, rfl, rfl, typeT C (.head _), getT C (.head _) (by omega) (by omega) (get_map hlt) fun t3 => ⟨C.gd.X, ?_⟩⟩))))))
  refine get_indent_spec C.gd (by show A.depth + 1 < _; omega) (by show ls[i0].length ≤ sizeLine; have := hgl i0 hlt; rw [sz16]; omega) (fun h' k' t4 hk => ?_)
  refine stX (C.keeps hk) O (fun s₅ C O => ?_)
  have hi1 := hi _ (List.getElem_mem hlt)
  have hdef1 : (S ls[i0]).cps.toList.takeWhile isInd = ind ls[i0] := rfl
  rw [hdef1] at C
  have hi2 : (ind2 (ind ls[i0]) (ls.drop (i0 + 1))).length ≤ 20 := by
    unfold ind2
    split
    · exact hi1
    · rename_i l1 r1 e
      split
      · exact hi1
      · refine hi _ ?_
        have : l1 ∈ ls.drop (i0 + 1) := by rw [e]; exact List.mem_cons_self
        exact List.mem_of_mem_drop this
  generalize hI2 : ind2 (ind ls[i0]) (ls.drop (i0 + 1)) = i2 at *
  refine seqJ (fun s' => ∃ t5, St w mg mb s.heap L [(Str.ofString "indent2", .str (S i2) t5), (Str.ofString "indent1", .str (S (ind ls[i0])) t4), (Str.ofString "i", .int (i0 : Nat) ti), (Str.ofString "n", .int ls.length t2), (Str.ofString "lines", .ref bl), (Str.ofString "limit", .int lim u)] [(bl, isT (ls.map S))] s'.heap ∧ SameO s s') ?_ ?_
  · refine wpAny_If (isTrue_and (wpAny_isTrue_Compare1 (wpAny_BinOp (rdL C rfl (wpAny_Constant_int (P.add_int (rdL C rfl (P.lt_int (wpAny_truthy_bool ?_)))))))))
    by_cases hlt1 : i0 + 1 < ls.length
    · rw [decide_eq_true (show (i0 : Int) + 1 < ls.length by omega), if_pos rfl]
      rw [List.drop_eq_getElem_cons hlt1] at hI2
      refine isTrue_and (isTrue_not (isTrue_plain (callK C (by k_is) (by k_is) (sp1 (subL (rdL C rfl (wpAny_BinOp (rdL C rfl (wpAny_Constant_int (P.add_int ?_))))))))))
      refine ⟨bl, _, _, rfl, rfl, typeT C (.head _), getT (z := S ls[i0 + 1]) C (.head _) (by omega) (by omega) (get_map hlt1) fun t6 => ⟨C.gd.X, ?_⟩⟩
      refine is_all_white_spec C.gd (by show A.depth + 1 < _; omega) (by show ls[i0 + 1].length ≤ sizeLine; have := hgl _ hlt1; rw [sz16]; omega) (hnl _ hlt1) (fun h' k' hk => wpAny_truthy_bool ?_)
      have C := C.keeps hk
      show if (!isW ls[i0 + 1]) = true then _ else _
      by_cases hwh : isW ls[i0 + 1] = true
      · rw [if_neg (by rw [hwh]; decide), if_neg Bool.false_ne_true]
        refine wpAny_execs_cons (wpAny_Assign_Name (rdL C rfl (stX C O fun s₆ C O => wpAny_execs_nil ?_)))
        have : ind ls[i0] = i2 := by rw [← hI2]; show _ = if isW ls[i0 + 1] = true then _ else _; rw [if_pos hwh]
        rw [this] at C
        exact ⟨rfl, _, C.sub ⟨rfl, by rw [this]; rfl, rfl, rfl, rfl, rfl, trivial⟩, O⟩
      · have hwf : isW ls[i0 + 1] = false := by simpa using hwh
        rw [if_pos (by rw [hwf]; rfl)]
        refine isTrue_and_nil ?_
        rw [if_pos rfl]
        refine wpAny_execs_cons (wpAny_Assign_Name (callK C (by k_is) (by k_is) (sp1 (subL (rdL C rfl (wpAny_BinOp (rdL C rfl (wpAny_Constant_int (P.add_int ?_)))))))))
        refine ⟨bl, _, _, rfl, rfl, typeT C (.head _), getT (z := S ls[i0 + 1]) C (.head _) (by omega) (by omega) (get_map hlt1) fun t6 => ⟨C.gd.X, ?_⟩⟩
        refine get_indent_spec C.gd (by show A.depth + 1 < _; omega) (by show ls[i0 + 1].length ≤ sizeLine; have := hgl _ hlt1; rw [sz16]; omega) (fun h' k' t7 hk => ?_)
        refine stX (C.keeps hk) O (fun s₆ C O => wpAny_execs_nil ?_)
        have : (S ls[i0 + 1]).cps.toList.takeWhile isInd = i2 := by rw [← hI2]; show _ = if isW ls[i0 + 1] = true then _ else _; rw [if_neg hwh]
        rw [this] at C
        exact ⟨rfl, _, C.sub ⟨rfl, rfl, rfl, rfl, rfl, rfl, trivial⟩, O⟩
    · rw [decide_eq_false (by omega), if_neg Bool.false_ne_true, if_neg Bool.false_ne_true]
      refine wpAny_execs_cons (wpAny_Assign_Name (rdL C rfl (stX C O fun s₆ C O => wpAny_execs_nil ?_)))
      have : ind ls[i0] = i2 := by rw [← hI2, List.drop_of_length_le (by omega)]; rfl
      rw [this] at C
      exact ⟨rfl, _, C.sub ⟨rfl, by rw [this]; rfl, rfl, rfl, rfl, rfl, trivial⟩, O⟩
  clear C O
  rintro s₆ ⟨t5, C, O⟩
  -- new = lines[:i]; partial = indent1
  refine wpAny_execs_cons (wpAny_Assign_Name (sliceT (rdL C rfl (partN (partE (rdL C rfl ⟨bl, _, none, some (_, _), _, _, rfl, C, .head _, by rw [List.length_map]; omega, rfl, rfl, fun bn h' C => ?_⟩))))))
  refine stX C O (fun s₇ C O => ?_)
  have hcut : cut (ls.map S) none ((some ((i0 : Int), ti)).map (·.1)) = (ls.takeWhile isW).map S := by
    show cut (ls.map S) none (some (i0 : Int)) = _
    rw [cut_to, ← List.map_take, htake]
  rw [show (none : Option (Int × Tok)).map (·.1) = none from rfl, hcut] at C
  refine wpAny_execs_cons (wpAny_Assign_Name (rdL C rfl (stX C O fun s₈ C O => ?_)))
  show wpAny _ _ (execs _ _) _ _ _
  rw [← List.drop_eq_getElem_cons hlt] at hpara
  have hB : ∀ k (hk : k < ((ls.drop i0).takeWhile nW).length), ∃ (hq : i0 + k < ls.length), ((ls.drop i0).takeWhile nW)[k] = ls[i0 + k] ∧ nW ls[i0 + k] = true := by
    intro k hk
    have h1 := tw_le nW (ls.drop i0)
    rw [List.length_drop] at h1
    have hq : i0 + k < ls.length := by omega
    have e : ((ls.drop i0).takeWhile nW)[k] = ls[i0 + k] := by
      have e1 : ((ls.drop i0).takeWhile nW)[k]? = (ls.drop i0)[k]? := by
        conv => rhs; rw [← List.takeWhile_append_dropWhile (p := nW) (l := ls.drop i0)]
        rw [List.getElem?_append_left hk]
      rw [List.getElem?_eq_getElem hk, List.getElem?_drop, List.getElem?_eq_getElem hq] at e1
      exact Option.some.inj e1
    refine ⟨hq, e, ?_⟩
    rw [← e]
    have hst := tw_next (p := nW) (ls := ls.drop i0) (i := k) (by omega) (by rw [List.length_drop]; omega)
    rw [List.getElem_drop] at hst
    rw [e]
    split at hst
    · assumption
    · omega
  have hwt : ∀ k, wt ((((ls.drop i0).takeWhile nW).take k).foldl (fun st l => goC (ind ls[i0]) i2 lim (chk l) st) (ls.takeWhile isW, ind ls[i0])) ≤ 550000 := by
    intro k
    have h1 := fold_wt (ind ls[i0]) i2 lim (((ls.drop i0).takeWhile nW).take k) (ls.takeWhile isW, ind ls[i0])
    have h2 : sumL (((ls.drop i0).takeWhile nW).take k) ≤ 20000 := by
      have e1 : ls = ls.take i0 ++ ((((ls.drop i0).takeWhile nW).take k ++ ((ls.drop i0).takeWhile nW).drop k) ++ (ls.drop i0).dropWhile nW) := by
        rw [List.take_append_drop, List.takeWhile_append_dropWhile, List.take_append_drop]
      have e2 := sumL_wt ls
      rw [e1, sumL_app, sumL_app, sumL_app, ← e1] at e2
      omega
    have h3 : wt (ls.takeWhile isW, ind ls[i0]) ≤ 20020 := by
      unfold wt
      have e2 : wtL ls = wtL (ls.takeWhile isW) + wtL (ls.dropWhile isW) := by rw [← wtL_app, List.takeWhile_append_dropWhile]
      show wtL (ls.takeWhile isW) + (ind ls[i0]).length ≤ _
      omega
    have h4 : (i2.length + 4) * sumL (((ls.drop i0).takeWhile nW).take k) ≤ 24 * 20000 := Nat.mul_le_mul (by omega) h2
    omega
  have hBl := tw_le nW (ls.drop i0)
  rw [List.length_drop] at hBl
  refine seqJ (fun s' => ∃ ti tp, St w mg mb s.heap L [(Str.ofString "i", .int (i0 + ((ls.drop i0).takeWhile nW).length : Nat) ti), (Str.ofString "partial", .str (S (((ls.drop i0).takeWhile nW).foldl (fun st l => goC (ind ls[i0]) i2 lim (chk l) st) (ls.takeWhile isW, ind ls[i0])).2) tp), (Str.ofString "new", .ref bn), (Str.ofString "lines", .ref bl)]
      [(bn, isT ((((ls.drop i0).takeWhile nW).foldl (fun st l => goC (ind ls[i0]) i2 lim (chk l) st) (ls.takeWhile isW, ind ls[i0])).1.map S)), (bl, isT (ls.map S))] s'.heap ∧ SameO s s') ?_ ?_
  · refine while_inv (fun n s' => ∃ k ti tp st, St w mg mb s.heap L [(Str.ofString "i", .int (i0 + k : Nat) ti), (Str.ofString "partial", .str (S st.2) tp), (Str.ofString "new", .ref bn), (Str.ofString "indent2", .str (S i2) t5), (Str.ofString "indent1", .str (S (ind ls[i0])) t4), (Str.ofString "n", .int ls.length t2), (Str.ofString "lines", .ref bl), (Str.ofString "limit", .int lim u)]
        [(bn, isT (st.1.map S)), (bl, isT (ls.map S))] s'.heap ∧ SameO s s' ∧ n = ls.length - (i0 + k) ∧ k ≤ ((ls.drop i0).takeWhile nW).length ∧
        st = (((ls.drop i0).takeWhile nW).take k).foldl (fun st l => goC (ind ls[i0]) i2 lim (chk l) st) (ls.takeWhile isW, ind ls[i0])) _ ?_ (ls.length - i0) ⟨0, _, _, (ls.takeWhile isW, ind ls[i0]), C.sub ⟨rfl, rfl, rfl, rfl, rfl, rfl, rfl, rfl, trivial⟩, O, rfl, Nat.zero_le _, rfl⟩ (fun s' hs' => ⟨rfl, hs'⟩)
    clear C O
    rintro n s' ⟨k, ti', tp, st, C, O, rfl, hkle, hst⟩
    have hwk := hwt k
    rw [← hst] at hwk
    refine isTrue_and (wpAny_isTrue_Compare1 (rdL C rfl (rdL C rfl (P.lt_int (wpAny_truthy_bool ?_)))))
    have fin : ∀ s'' : Shared, k = ((ls.drop i0).takeWhile nW).length → Kp s'.heap s''.heap → SameO s s'' → ∃ ti tp, St w mg mb s.heap L [(Str.ofString "i", .int (i0 + ((ls.drop i0).takeWhile nW).length : Nat) ti), (Str.ofString "partial", .str (S (((ls.drop i0).takeWhile nW).foldl (fun st l => goC (ind ls[i0]) i2 lim (chk l) st) (ls.takeWhile isW, ind ls[i0])).2) tp), (Str.ofString "new", .ref bn), (Str.ofString "lines", .ref bl)]
      [(bn, isT ((((ls.drop i0).takeWhile nW).foldl (fun st l => goC (ind ls[i0]) i2 lim (chk l) st) (ls.takeWhile isW, ind ls[i0])).1.map S)), (bl, isT (ls.map S))] s''.heap ∧ SameO s s'' := by
      intro s'' hke hkp hO
      rw [hke, List.take_length] at hst
      have C := C.keeps hkp
      rw [hst, hke] at C
      exact ⟨_, _, C.sub ⟨rfl, rfl, rfl, rfl, trivial⟩, hO⟩
    by_cases hlt' : i0 + k < ls.length
    · rw [decide_eq_true (show ((i0 + k : Nat) : Int) < ls.length by omega), if_pos rfl]
      have htw := tw_next (p := nW) (ls := ls.drop i0) (i := k) hkle (by rw [List.length_drop]; omega)
      rw [List.getElem_drop] at htw
      refine isTrue_and (isTrue_not (isTrue_plain (callK C (by k_is) (by k_is) (sp1 (subL (rdL C rfl (rdL C rfl ?_)))))))
      refine ⟨bl, _, _, rfl, rfl, typeT C (.tail _ (.head _)), getT (z := S ls[i0 + k]) C (.tail _ (.head _)) (by omega) (by omega) (get_map hlt') fun t6 => ⟨C.gd.X, ?_⟩⟩
      refine is_all_white_spec C.gd (by show A.depth + 1 < _; omega) (by show ls[i0 + k].length ≤ sizeLine; have := hgl _ hlt'; rw [sz16]; omega) (hnl _ hlt') (fun h' k' hk => wpAny_truthy_bool ?_)
      show if (!isW ls[i0 + k]) = true then _ else _
      by_cases hwh : nW ls[i0 + k] = true
      · rw [if_pos hwh] at htw
        rw [if_pos hwh]
        have C := C.keeps hk
        refine isTrue_and_nil ?_
        rw [if_pos rfl]
        have hli := hgl _ hlt'
        have hcl := chk_len _ ls[i0 + k] (Nat.le_refl _)
        refine wpAny_execs_cons (wpAny_Assign_Name ?_)
        refine meth1 plainAttrs_pat slot_split type_split (rdK C (by k_is) ⟨(typePat1 C).1, (typePat1 C).2, sp1 (subL (rdL C rfl (rdL C rfl ?_)))⟩)
        refine ⟨bl, _, _, rfl, rfl, typeT C (.tail _ (.head _)), getT (z := S ls[i0 + k]) C (.tail _ (.head _)) (by omega) (by omega) (get_map hlt') fun t6 => ?_⟩
        refine splitRe C (by omega) (fun bw h' k'' C => ?_)
        refine stX C O (fun s₄ C O => ?_)
        show wpAny _ _ (execs _ _) _ _ _
        refine seqJ (fun s' => ∃ tp, St w mg mb s.heap L [(Str.ofString "partial", .str (S (goC (ind ls[i0]) i2 lim (chk ls[i0 + k]) st).2) tp), (Str.ofString "i", .int (i0 + k : Nat) ti'), (Str.ofString "new", .ref bn), (Str.ofString "indent2", .str (S i2) t5), (Str.ofString "indent1", .str (S (ind ls[i0])) t4), (Str.ofString "n", .int ls.length t2), (Str.ofString "lines", .ref bl), (Str.ofString "limit", .int lim u)]
          [(bn, isT ((goC (ind ls[i0]) i2 lim (chk ls[i0 + k]) st).1.map S)), (bl, isT (ls.map S))] s'.heap ∧ SameO s s') ?_ ?_
        · refine for_range (s₀ := s) (h₀ := s.heap) (mg := mg) (mb := mb) (N := ((chk ls[i0 + k]).length + 1) / 2) (c := 2) hh (fun it i s' => ∃ tp st', St w mg mb s.heap L [(Str.ofString "partial", .str (S st'.2) tp), (Str.ofString "words", .ref bw), (Str.ofString "i", .int (i0 + k : Nat) ti'), (Str.ofString "new", .ref bn), (Str.ofString "indent2", .str (S i2) t5), (Str.ofString "indent1", .str (S (ind ls[i0])) t4), (Str.ofString "n", .int ls.length t2), (Str.ofString "lines", .ref bl), (Str.ofString "limit", .int lim u)]
            [(it, isRI (i * 2) ((((chk ls[i0 + k]).length + 1) / 2 : Nat) - (i : Int)) 2), (bw, isT ((chk ls[i0 + k]).map S)), (bn, isT (st'.1.map S)), (bl, isT (ls.map S))] s'.heap ∧ SameO s s' ∧
            goC (ind ls[i0]) i2 lim ((chk ls[i0 + k]).drop (2 * i)) st' = goC (ind ls[i0]) i2 lim (chk ls[i0 + k]) st ∧ wt st' + 24 * sumL ((chk ls[i0 + k]).drop (2 * i)) ≤ 550000 + 24 * 10000) ?_ ?_
          · refine callY C (by k_is) (by boot_fast) (sp3 (wpAny_Constant_int (callB C (by k_is) (by boot_fast) (sp1 (rdL C rfl (lenT C (.head _) (by rw [List.length_map]; omega) fun t7 k7 => wpAny_Constant_int ?_))))))
            refine call_range_3 (by decide) ?_
            rw [List.length_map]
            refine ⟨_, _, _, _, _, _, _, rfl, IsRange.new _ _ _ _ _ _ _, small2 (by omega), rsize2 _, C.keeps (kp_push _ _), O, fun it s₅ C O hk => ?_⟩
            refine ⟨_, st, C.sub ⟨rfl, rfl, rfl, rfl, rfl, rfl, rfl, rfl, rfl, trivial⟩, O, rfl, ?_⟩
            rw [Nat.mul_zero, List.drop_zero, chk_sum _ _ (Nat.le_refl _)]
            omega
          · rintro it i s' hiN ⟨tp', st', C, O, hgo, hwg⟩
            refine ⟨_, _, C, O, ?_, ?_⟩
            · intro tj s₅ hiN C O
              have hcl2 : (chk ls[i0 + k]).length ≤ 40001 := by omega
              generalize chk ls[i0 + k] = ws at *
              have h2i : 2 * i < ws.length := by omega
              have hi2' : ((i : Int) * 2).toNat = 2 * i := by omega
              have hgo2 := goC_at (i1 := ind ls[i0]) (i2 := i2) (lim := lim) h2i st'
              have e2i : 2 * (i + 1) = 2 * i + 2 := by omega
              have hsum : sumL (ws.drop (2 * i)) = ws[2 * i].length + sumL (ws.drop (2 * i + 1)) := by rw [List.drop_eq_getElem_cons h2i]; rfl
              have hsum2 : sumL (ws.drop (2 * i + 2)) ≤ sumL (ws.drop (2 * i + 1)) := by
                rw [← List.drop_drop (i := 1) (j := 2 * i + 1)]
                cases ws.drop (2 * i + 1) with
                | nil => exact Nat.le_refl _
                | cons a r => rw [sumL_cons]; show sumL r ≤ _; omega
              have hwst := stepW_wt (ind ls[i0]) i2 lim ws[2 * i] (decide (2 * i + 1 < ws.length) && (ws.getD (2 * i + 1) [] != [32])) st'
              have hm24 : (i2.length + 4) * ws[2 * i].length ≤ 24 * ws[2 * i].length := Nat.mul_le_mul (by omega) (Nat.le_refl _)
              have hpl : st'.2.length ≤ 1030000 := by unfold wt at hwg; omega
              have hpn : st'.1.length ≤ 1030000 := by unfold wt at hwg; have := wtL_len st'.1; omega
              have hsl : st'.2.length + ws[2 * i].length ≤ 1000000 := by unfold wt at hwg; omega
              have hend : ∀ s₆ tp6 l6, l6 = [(Str.ofString "words", Value.ref bw), (Str.ofString "i", .int (i0 + k : Nat) ti'), (Str.ofString "new", .ref bn), (Str.ofString "indent2", .str (S i2) t5), (Str.ofString "indent1", .str (S (ind ls[i0])) t4), (Str.ofString "n", .int ls.length t2), (Str.ofString "lines", .ref bl), (Str.ofString "limit", .int lim u)] →
                  St w mg mb s.heap L ((Str.ofString "partial", .str (S (stepW (ind ls[i0]) i2 lim ws[2 * i] (decide (2 * i + 1 < ws.length) && (ws.getD (2 * i + 1) [] != [32])) st').2) tp6) :: l6)
                    [(it, isRI ((i + 1 : Nat) * 2) (((ws.length + 1) / 2 : Nat) - ((i + 1 : Nat) : Int)) 2), (bw, isT (ws.map S)), (bn, isT ((stepW (ind ls[i0]) i2 lim ws[2 * i] (decide (2 * i + 1 < ws.length) && (ws.getD (2 * i + 1) [] != [32])) st').1.map S)), (bl, isT (ls.map S))] s₆.heap → SameO s s₆ →
                  ∃ tp st', St w mg mb s.heap L ((Str.ofString "partial", .str (S st'.2) tp) :: l6)
                    [(it, isRI ((i + 1 : Nat) * 2) (((ws.length + 1) / 2 : Nat) - ((i + 1 : Nat) : Int)) 2), (bw, isT (ws.map S)), (bn, isT (st'.1.map S)), (bl, isT (ls.map S))] s₆.heap ∧ SameO s s₆ ∧
                    goC (ind ls[i0]) i2 lim (ws.drop (2 * (i + 1))) st' = goC (ind ls[i0]) i2 lim ws st ∧ wt st' + 24 * sumL (ws.drop (2 * (i + 1))) ≤ 550000 + 24 * 10000 := by
                intro s₆ tp6 l6 _ C O
                refine ⟨tp6, _, C, O, ?_, ?_⟩
                · rw [e2i, ← hgo2, hgo]
                · rw [e2i]; omega
              -- word = words[j]
              refine wpAny_execs_cons (wpAny_Assign_Name (subL (rdL C rfl (rdL C rfl ?_))))
              refine ⟨bw, _, _, rfl, rfl, typeT C (.tail _ (.head _)), getT (z := S ws[2 * i]) C (.tail _ (.head _)) (by omega) (by omega) (by rw [hi2']; exact get_map h2i) fun t8 => ?_⟩
              refine stX C O (fun s₆ C O => ?_)
              show wpAny _ _ (execs _ _) _ _ _
              by_cases hwe : ws[2 * i] = []
              · -- if not word: continue
                refine wpAny_execs_cons (wpAny_If (isTrue_not (isTrue_plain (rdL C rfl (truthyS (fun k9 => ?_) (by rw [hwe]; simp))))))
                rw [if_pos (by rw [hwe]; rfl)]
                refine wpAny_execs_cons (wpAny_Continue ?_)
                have hst9 : stepW (ind ls[i0]) i2 lim ws[2 * i] (decide (2 * i + 1 < ws.length) && (ws.getD (2 * i + 1) [] != [32])) st' = st' := by unfold stepW; rw [if_pos hwe]
                refine ⟨.inr rfl, hend _ tp' _ rfl ?_ O⟩
                rw [hst9]
                exact C.sub ⟨rfl, rfl, rfl, rfl, rfl, rfl, rfl, rfl, rfl, trivial⟩
              refine wpAny_execs_cons (wpAny_If (isTrue_not (isTrue_plain (rdL C rfl (truthyS (fun k9 => ?_) (by omega))))))
              rw [if_neg (by simpa using hwe)]
              refine wpAny_execs_nil ?_
              show wpAny _ _ (execs _ _) _ _ _
              -- the row is full
              have hstW : ∀ b, stepW (ind ls[i0]) i2 lim ws[2 * i] b st' = (let st1 : PSt := if ((xtab 0 (st'.2 ++ ws[2 * i])).length : Int) > lim ∧ st'.2 ≠ ind ls[i0] then (st'.1 ++ [rstripL st'.2], i2) else st'
                (st1.1, if b = true then st1.2 ++ ws[2 * i] ++ [32] ++ [32] else st1.2 ++ ws[2 * i] ++ [32])) := by
                intro b; unfold stepW; rw [if_neg hwe]
              generalize hst1 : (if ((xtab 0 (st'.2 ++ ws[2 * i])).length : Int) > lim ∧ st'.2 ≠ ind ls[i0] then (st'.1 ++ [rstripL st'.2], i2) else st') = st1 at hstW
              have hl1 : st1.2.length ≤ 1030020 := by
                rw [← hst1]
                split
                · show i2.length ≤ _; omega
                · omega
              have hn1 : st1.2.length + ws[2 * i].length ≤ 1030020 + 1030000 := by omega
              refine seqJ (fun s' => ∃ tp, St w mg mb s.heap L [(Str.ofString "partial", .str (S st1.2) tp), (Str.ofString "word", .str (S ws[2 * i]) t8), (Str.ofString "j", .int ((i : Int) * 2) tj), (Str.ofString "words", .ref bw), (Str.ofString "i", .int (i0 + k : Nat) ti'), (Str.ofString "new", .ref bn), (Str.ofString "indent2", .str (S i2) t5), (Str.ofString "indent1", .str (S (ind ls[i0])) t4), (Str.ofString "n", .int ls.length t2), (Str.ofString "lines", .ref bl), (Str.ofString "limit", .int lim u)]
                [(it, isRI ((i + 1 : Nat) * 2) (((ws.length + 1) / 2 : Nat) - ((i + 1 : Nat) : Int)) 2), (bw, isT (ws.map S)), (bn, isT (st1.1.map S)), (bl, isT (ls.map S))] s'.heap ∧ SameO s s') ?_ ?_
              · have hx8 := xtab_len (st'.2 ++ ws[2 * i]) 0
                rw [List.length_append] at hx8
                refine wpAny_If (isTrue_and (wpAny_isTrue_Compare1 (callB C (by k_is) (by boot_fast) (sp1 (meth0 F.plainAttrs_str F.slot_str_expandtabs F.type_str_expandtabs (wpAny_BinOp (rdL C rfl (rdL C rfl (addS (fun t10 k10 => ⟨typeIs_str _ _ _, fun a ha => (nomatch ha), ?_⟩) (by omega))))))))))
                refine wp_expandtabs0 (by show (st'.2 ++ ws[2 * i]).length ≤ _; rw [List.length_append]; omega) (fun t11 k11 => lenS (fun t12 k12 => rdL C rfl (P.gt_int (wpAny_truthy_bool ?_))) ?_)
                · show if decide (((xtab 0 (st'.2 ++ ws[2 * i])).length : Int) > lim) = true then _ else _
                  by_cases hc1 : ((xtab 0 (st'.2 ++ ws[2 * i])).length : Int) > lim
                  · rw [if_pos (decide_eq_true hc1)]
                    refine isTrue_and (wpAny_isTrue_Compare1 (rdL C rfl (rdL C rfl (neS (wpAny_truthy_bool ?_)))))
                    by_cases hc2 : st'.2 ≠ ind ls[i0]
                    · rw [if_pos (by simpa using hc2)]
                      refine isTrue_and_nil ?_
                      rw [if_pos rfl]
                      rw [if_pos ⟨hc1, hc2⟩] at hst1
                      subst hst1
                      refine wpAny_execs_cons (wpAny_Expr ?_)
                      refine meth1 F.plainAttrs_list F.slot_list_append F.type_list_append (rdL C rfl ⟨typeT C (.tail _ (.tail _ (.head _))), dictT C (.tail _ (.tail _ (.head _))), sp1 (meth0 F.plainAttrs_str F.slot_str_rstrip F.type_str_rstrip (rdL C rfl ⟨typeIs_str _ _ _, fun a ha => (nomatch ha), rstripS (fun t13 k13 => ?_) (by omega)⟩))⟩)
                      refine appendT C (.tail (.tail .head)) (by rw [List.length_map]; omega) (fun h' C => ?_)
                      show wpAny _ _ (execs _ _) _ _ _
                      have e1 : st'.1.map S ++ [S (rstripL st'.2)] = (st'.1 ++ [rstripL st'.2]).map S := by rw [List.map_append]; rfl
                      rw [e1] at C
                      refine wpAny_execs_cons (wpAny_Assign_Name (rdL C rfl (stX C O fun s₇ C O => wpAny_execs_nil ?_)))
                      exact ⟨rfl, _, C.sub ⟨rfl, rfl, rfl, rfl, rfl, rfl, rfl, rfl, rfl, rfl, rfl, trivial⟩, O⟩
                    · rw [if_neg (by simpa using hc2), if_neg Bool.false_ne_true]
                      rw [if_neg (fun hx => hc2 hx.2)] at hst1
                      subst hst1
                      exact wpAny_execs_nil ⟨rfl, _, C.sub ⟨rfl, rfl, rfl, rfl, rfl, rfl, rfl, rfl, rfl, rfl, rfl, trivial⟩, O⟩
                  · rw [if_neg (by simpa using hc1), if_neg Bool.false_ne_true]
                    rw [if_neg (fun hx => hc1 hx.1)] at hst1
                    subst hst1
                    exact wpAny_execs_nil ⟨rfl, _, C.sub ⟨rfl, rfl, rfl, rfl, rfl, rfl, rfl, rfl, rfl, rfl, rfl, trivial⟩, O⟩
                · show (xtab 0 (st'.2 ++ ws[2 * i])).length ≤ _; omega
              clear C O
              rintro s₇ ⟨tp7, C, O⟩
              -- partial = partial + word + ' '
              refine wpAny_execs_cons (wpAny_Assign_Name (wpAny_BinOp (wpAny_BinOp (rdL C rfl (rdL C rfl (addS (fun t14 k14 => constS (x := [32]) (by decide +kernel) fun t15 k15 => addS (fun t16 k16 => ?_) ?_) ?_))))))
              · refine stX C O (fun s₈ C O => ?_)
                show wpAny _ _ (execs _ _) _ _ _
                refine seqJ (fun s' => ∃ tp, St w mg mb s.heap L [(Str.ofString "partial", .str (S (stepW (ind ls[i0]) i2 lim ws[2 * i] (decide (2 * i + 1 < ws.length) && (ws.getD (2 * i + 1) [] != [32])) st').2) tp), (Str.ofString "words", .ref bw), (Str.ofString "i", .int (i0 + k : Nat) ti'), (Str.ofString "new", .ref bn), (Str.ofString "indent2", .str (S i2) t5), (Str.ofString "indent1", .str (S (ind ls[i0])) t4), (Str.ofString "n", .int ls.length t2), (Str.ofString "lines", .ref bl), (Str.ofString "limit", .int lim u)]
                  [(it, isRI ((i + 1 : Nat) * 2) (((ws.length + 1) / 2 : Nat) - ((i + 1 : Nat) : Int)) 2), (bw, isT (ws.map S)), (bn, isT ((stepW (ind ls[i0]) i2 lim ws[2 * i] (decide (2 * i + 1 < ws.length) && (ws.getD (2 * i + 1) [] != [32])) st').1.map S)), (bl, isT (ls.map S))] s'.heap ∧ SameO s s') ?_ ?_
                · refine wpAny_If (isTrue_and (wpAny_isTrue_Compare1 (wpAny_BinOp (rdL C rfl (wpAny_Constant_int (P.add_int (callB C (by k_is) (by boot_fast) (sp1 (rdL C rfl (lenT C (.tail _ (.head _)) (by rw [List.length_map]; omega) fun t17 k17 => P.lt_int (wpAny_truthy_bool ?_)))))))))))
                  rw [List.length_map]
                  by_cases hlt1 : 2 * i + 1 < ws.length
                  · rw [if_pos (decide_eq_true (show (i : Int) * 2 + 1 < ws.length by omega))]
                    refine isTrue_and (wpAny_isTrue_Compare1 (subL (rdL C rfl (wpAny_BinOp (rdL C rfl (wpAny_Constant_int (P.add_int ?_)))))))
                    refine ⟨bw, _, _, rfl, rfl, typeT C (.tail _ (.head _)), getT (z := S ws[2 * i + 1]) C (.tail _ (.head _)) (by omega) (by omega) (by rw [show ((i : Int) * 2 + 1).toNat = 2 * i + 1 by omega]; exact get_map hlt1) fun t18 => ?_⟩
                    refine constS (x := [32]) (by decide +kernel) fun t19 k19 => neS (wpAny_truthy_bool ?_)
                    have hg : ws.getD (2 * i + 1) [] = ws[2 * i + 1] := by rw [List.getD_eq_getElem?_getD, List.getElem?_eq_getElem hlt1]; rfl
                    rw [hg, decide_eq_true hlt1, Bool.true_and, hstW]
                    by_cases hc3 : (ws[2 * i + 1] != [32]) = true
                    · rw [if_pos hc3]
                      refine isTrue_and_nil ?_
                      rw [if_pos rfl]
                      refine wpAny_execs_cons (wpAny_Assign_Name (wpAny_BinOp (rdL C rfl (constS (x := [32]) (by decide +kernel) fun t20 k20 => addS (fun t21 k21 => ?_) ?_))))
                      · refine stX C O (fun s₉ C O => wpAny_execs_nil ⟨rfl, t21, ?_, O⟩)
                        dsimp only
                        rw [if_pos hc3]
                        exact C.sub ⟨rfl, rfl, rfl, rfl, rfl, rfl, rfl, rfl, rfl, trivial⟩
                      · simp only [List.length_append, List.length_singleton]; omega
                    · rw [if_neg hc3, if_neg Bool.false_ne_true]
                      refine wpAny_execs_nil ⟨rfl, t16, ?_, O⟩
                      dsimp only
                      rw [if_neg hc3]
                      exact C.sub ⟨rfl, rfl, rfl, rfl, rfl, rfl, rfl, rfl, rfl, trivial⟩
                  · rw [if_neg (by simpa using (show ¬ ((i : Int) * 2 + 1 < ws.length) by omega)), if_neg Bool.false_ne_true]
                    rw [decide_eq_false hlt1, Bool.false_and, hstW]
                    exact wpAny_execs_nil ⟨rfl, t16, C.sub ⟨rfl, rfl, rfl, rfl, rfl, rfl, rfl, rfl, rfl, trivial⟩, O⟩
                · rintro s₉ ⟨tp9, C, O⟩
                  exact wpAny_execs_nil ⟨.inl rfl, hend _ tp9 _ rfl C O⟩
              · simp only [List.length_append, List.length_singleton]; omega
              · omega
            · intro s'' hiN C O
              have : (chk ls[i0 + k]).drop (2 * i) = [] := List.drop_of_length_le (by omega)
              rw [this] at hgo
              have hgo : st' = goC (ind ls[i0]) i2 lim (chk ls[i0 + k]) st := hgo
              rw [hgo] at C
              exact ⟨rfl, _, St.sub (C.drop (List.sublist_cons_self _ _)) ⟨rfl, rfl, rfl, rfl, rfl, rfl, rfl, rfl, trivial⟩, O⟩
        · rintro s₅ ⟨tp5, C, O⟩
          obtain ⟨hq, hBk, _⟩ := hB k (by omega)
          refine wpAny_execs_cons (wpAny_Assign_Name (wpAny_BinOp (rdL C rfl (wpAny_Constant_int (P.add_int (stX C O fun s₆ C O => wpAny_execs_nil ?_))))))
          refine ⟨.inl rfl, _, ?_, k + 1, _, _, goC (ind ls[i0]) i2 lim (chk ls[i0 + k]) st, C.sub ⟨rfl, rfl, rfl, rfl, rfl, rfl, rfl, rfl, trivial⟩, O, rfl, htw, ?_⟩
          · omega
          · rw [List.take_add_one, List.getElem?_eq_getElem (by omega), List.foldl_append, ← hst, hBk]
            rfl
      · rw [if_neg hwh] at htw
        rw [if_neg hwh, if_neg Bool.false_ne_true]
        exact fin _ htw hk O
    · rw [decide_eq_false (by omega), if_neg Bool.false_ne_true, if_neg Bool.false_ne_true]
      exact fin _ (by omega) (Kp.refl _) O
  clear C O
  rintro s₉ ⟨ti9, tp9, C, O⟩
  have hwB := hwt ((ls.drop i0).takeWhile nW).length
  rw [List.take_length] at hwB
  generalize hfin : ((ls.drop i0).takeWhile nW).foldl (fun st l => goC (ind ls[i0]) i2 lim (chk l) st) (ls.takeWhile isW, ind ls[i0]) = fin at *
  have hwl : fin.2.length ≤ 550000 := by unfold wt at hwB; omega
  have hwn : fin.1.length ≤ 550000 := by unfold wt at hwB; have := wtL_len fin.1; omega
  -- new.append(partial.rstrip())
  refine wpAny_execs_cons (wpAny_Expr ?_)
  refine meth1 F.plainAttrs_list F.slot_list_append F.type_list_append (rdL C rfl ⟨typeT C (.head _), dictT C (.head _), sp1 (meth0 F.plainAttrs_str F.slot_str_rstrip F.type_str_rstrip (rdL C rfl ⟨typeIs_str _ _ _, fun a ha => (nomatch ha), rstripS (fun t10 k10 => ?_) (by omega)⟩))⟩)
  refine appendT C .head (by rw [List.length_map]; omega) (fun h' C => ?_)
  show wpAny _ _ (execs _ _) _ _ _
  have e1 : fin.1.map S ++ [S (rstripL fin.2)] = (fin.1 ++ [rstripL fin.2]).map S := by rw [List.map_append]; rfl
  rw [e1] at C
  -- new.extend(lines[i:])
  refine wpAny_execs_cons (wpAny_Expr ?_)
  refine meth1 F.plainAttrs_list F.slot_list_extend F.type_list_extend (rdL C rfl ⟨typeT C (.head _), dictT C (.head _), sp1 (sliceT (rdL C rfl (partE (rdL C rfl (partN ⟨bl, _, some (_, _), none, _, _, rfl, C, .tail _ (.head _), by rw [List.length_map]; omega, rfl, rfl, fun bx h' C => ?_⟩)))))⟩)
  have hcut2 : cut (ls.map S) ((some (((i0 + ((ls.drop i0).takeWhile nW).length : Nat) : Int), ti9)).map (·.1)) none = ((ls.drop i0).dropWhile nW).map S := by
    show cut (ls.map S) (some ((i0 + ((ls.drop i0).takeWhile nW).length : Nat) : Int)) none = _
    rw [cut_from, ← List.map_drop, ← List.drop_drop, tw_drop nW]
  rw [show (none : Option (Int × Tok)).map (·.1) = none from rfl, hcut2] at C
  have hdl : ((ls.drop i0).dropWhile nW).length ≤ ls.length := by
    have := congrArg List.length (List.takeWhile_append_dropWhile (p := nW) (l := ls.drop i0))
    rw [List.length_append, List.length_drop] at this; omega
  refine extendT C (.head _) (.tail .head) (by rw [List.length_map, List.length_map, List.length_append, List.length_singleton]; omega) (fun h' C => ?_)
  show wpAny _ _ (execs _ _) _ _ _
  rw [← List.map_append] at C
  have hpara : para ls lim = fin.1 ++ [rstripL fin.2] ++ (ls.drop i0).dropWhile nW := hpara
  rw [← hpara] at C
  refine wpAny_execs_cons (wpAny_Return_some ?_)
  refine meth1 F.plainAttrs_str F.slot_str_join F.type_str_join (constS (x := [10]) (by decide +kernel) fun t11 k11 => ⟨typeIs_str _ _ _, fun a ha => (nomatch ha), sp1 (rdL C rfl ?_)⟩)
  refine joinS C (.tail _ (.head _)) ?_ (fun t12 k12 => ?_)
  · have : wtL (para ls lim) ≤ 600000 := by
      rw [hpara, wtL_app, wtL_app, wtL_cons, wtL_nil]
      have e2 : wtL ls = wtL (ls.take i0) + wtL (ls.drop i0) := by rw [← wtL_app, List.take_append_drop]
      have e3 : wtL (ls.drop i0) = wtL ((ls.drop i0).takeWhile nW) + wtL ((ls.drop i0).dropWhile nW) := by rw [← wtL_app, List.takeWhile_append_dropWhile]
      have := rstripL_len fin.2
      unfold wt at hwB
      omega
    unfold wtL at this
    omega
  · have e := O.eq
    have := h _ k12 t12 C.kp
    rw [e]
    exact this
end
end
end Mine
end

-- W8
section
set_option maxRecDepth 100000
set_option linter.unusedVariables false
set_option Elab.async false
namespace Mine
open PySem PySem.W PyProof.Rows PySem.Calls PySem.Builtin PySem.Builtin.Str

noncomputable section
theorem fill5 : (PySem.Challenge.rw_lg0018_01, hd.heap_39) = (PySem.Challenge.rw_lg0018_01, hd.heap_39) := by k_fill; rfl

section
variable {prog : Program} {w : World} {A : Around} {E : Value → Shared → Prop} {s : Shared} {mg mb : Str → Option Value}

/-- a def with cells -/
def SubB : List (Str × Value) → (Str → Option Value) → Prop
  | [], _ => True
  | p :: r, m => m p.1 = some p.2 ∧ SubB r m
theorem SubB.get {m : Str → Option Value} : ∀ {l' : List (Str × Value)}, SubB l' m → ∀ x v, l'.lookup x = some v → m x = some v
  | [], _, _, _, e => by cases e
  | (y, z) :: r, h, x, v, e => by
    rw [List.lookup_cons] at e
    split at e
    · rename_i hb
      have hx : x = y := by simpa using hb
      cases e
      rw [hx]; exact h.1
    · exact h.2.get x v e
theorem call_fnC {f : Addr} {oc : Value} {od : Option Addr} {osl : Array (Option Value)} {args : List Value} {binds : List (Str × Value)} {Q : Value → Shared → Prop}
    {name qual : Str} {params : Arguments} {body : List Stmt} {scope : Scope} {dV kV doc pm cdv ct : Value} {an : Option Addr} {lm : List (Str × Value)} {cl : Addr → List (Str × Addr)} {cm : Addr → List (Addr × Option Value)}
    (G : Gd w mg mb s.heap) (hroom : A.depth < recursionLimit)
    (ho : (hd.heap_39 w.params).lookup f = some ⟨oc, od, .func (fnOf name qual params body scope dV kV doc pm an cdv ct), osl⟩) (hcd : codeIn (hd.heap_39 w.params) cdv qual = true)
    (hbind : bindArgs (fnOf name qual params body scope dV kV doc pm an cdv ct) ⟨args, []⟩ = pure binds)
    (hkind : (binds.all fun x => scope.names.lookup x.1 == some .local || scope.names.lookup x.1 == some .cell) = true)
    (hnd : ((cellsFrom 0 scope.names []).map (·.1)).Nodup)
    (hcl : ∀ L, cellsFrom (L + 1) scope.names [] = cl L) (hcm : ∀ L, (cl L).map (fun p => (p.2, bindC (fun x => scope.names.lookup x) binds (fun _ => none) p.1)) = cm L)
    (hcd2 : ∀ L, ((cm L).map (·.1)).Nodup)
    (hl : SubB lm (bindL (fun x => scope.names.lookup x) binds (fun _ => none)))
    (hco : scope.isCoroutine = false) (hgen : scope.isGenerator = false) (hk : scope.kind = .function)
    (h : ∀ L h₁ tk, St w mg mb s.heap L lm ((cm L).map fun p => (p.1, isC p.2)) h₁ → L = s.heap.objs.size →
      wpAny (model prog w) (A.deeper (envX qual scope L f cdv (cl L))) (execs body (envX qual scope L f cdv (cl L))) (fun fl s' => Q (match fl with | .ret v => v | _ => .none) s') (fun _ _ => False) { s with heap := h₁, toks := tk }) :
    wpAny (model prog w) A (call (.ref f) args) Q E s := by
  refine wpAny_call (codeAny_call_cells (fd := fnOf name qual params body scope dV kV doc pm an cdv ct) (body := body) (o := ⟨oc, od, .func (fnOf name qual params body scope dV kV doc pm an cdv ct), osl⟩) hroom (G.X _ _ ho) rfl G.T.nolimit (codeRec_of G.X hcd) rfl hbind rfl ?_ (fun s₁ x => ?_) hco hgen hk)
  · exact kindsX hkind _
  · obtain ⟨h₁, tk, rfl, hk₁⟩ := x.done
    have hcells : (callEnvC (fnOf name qual params body scope dV kV doc pm an cdv ct) s.heap.objs.size f).cells = cl s.heap.objs.size := hcl _
    have C : St w mg mb s.heap s.heap.objs.size lm ((cm s.heap.objs.size).map fun p => (p.1, isC p.2)) h₁ := by
      refine ⟨⟨_, ⟨x.toInCall.ns, hk₁, Nat.le_refl _⟩, hl.get⟩, fun p hp => ?_, ?_, G⟩
      · obtain ⟨q, hq, rfl⟩ := List.mem_map.mp hp
        rw [← hcm] at hq
        obtain ⟨r, hr, rfl⟩ := List.mem_map.mp hq
        rw [← hcl] at hr
        have hlk := lookup_of_mem_nodup (cellsFrom_names scope.names 0 (s.heap.objs.size + 1) [] [] rfl ▸ hnd) hr
        obtain ⟨o, ho1, ho2⟩ := x.cell r.1 r.2 hlk
        have hab : s.heap.objs.size < r.2 := x.above r.1 r.2 hr
        refine ⟨⟨o, ho1, ho2⟩, Nat.ne_of_gt hab, ?_⟩
        cases e : s.heap.get? r.2 with
        | none => rfl
        | some o' => exact absurd (Heap.lt_size e) (Nat.not_lt.mpr (Nat.le_of_lt hab))
      · rw [List.map_map]
        exact hcd2 _
    have key := h s.heap.objs.size h₁ tk C rfl
    rw [← hcl] at key
    exact wpAny_mono key (fun fl s' x => x) (fun _ _ x => x.elim)

variable {h₀ : Heap} {L a : Addr} {l : List (Str × Value)} {nw nw' : List (Addr × Shp)} {Q : Value → Shared → Prop} {t u : Tok}
abbrev HasT (h : Heap) (b : Addr) (ts : List Str) : Prop := ∃ o, h.get? b = some o ∧ isT ts o
theorem HasT.kp {h h' : Heap} {b : Addr} {ts : List Str} (x : HasT h b ts) (k : Kp h h') : HasT h' b ts := let ⟨o, a, p⟩ := x; ⟨o, k _ _ a, p⟩
theorem St.hasT {h : Heap} {b : Addr} {ts : List Str} (C : St w mg mb h₀ L l nw h) (hm : (b, isT ts) ∈ nw) : HasT h b ts := C.get hm
theorem lenT' {b : Addr} {ts : List Str} (H : HasT s.heap b ts) (hsz : ts.length ≤ 16777216) (h : ∀ t' k, Q (.int ts.length t') { s with toks := k }) :
    wpAny (model prog w) A (call (.builtin "len") [.ref b]) Q E s := by
  obtain ⟨o, ho, vs, hv, n, rfl⟩ := H
  have e : vs.toArray.size = ts.length := by rw [List.size_toArray]; exact hv.length
  refine len_list ⟨_, ho, rfl, n, rfl⟩ (by rw [e]; omega) ?_
  rw [e]; exact h _ _
theorem getT' {b : Addr} {ts : List Str} {k : Int} {z : Str} (H : HasT s.heap b ts) (h0 : 0 ≤ k) (hk : k < 2 ^ 60) (hz : ts[k.toNat]? = some z) (h : ∀ t', Q (.str z t') s) :
    wpAny (model prog w) A (getItem (.ref b) (.int k t)) Q E s := by
  obtain ⟨o, ho, vs, hv, n, rfl⟩ := H
  obtain ⟨t', ht⟩ := hv.get _ _ hz
  exact getItem_listL ⟨_, ho, rfl, n, rfl⟩ h0 (by omega) ht (h t')
theorem getLastT' {b : Addr} {ts : List Str} {z : Str} (H : HasT s.heap b (ts ++ [z])) (h : ∀ t', Q (.str z t') s) :
    wpAny (model prog w) A (getItem (.ref b) (.int (-1) t)) Q E s := by
  obtain ⟨o, ho, vs, hv, n, rfl⟩ := H
  have hl := hv.length
  rw [List.length_append, List.length_singleton] at hl
  obtain ⟨t', ht⟩ := hv.get ts.length z (by simp)
  have e : vs.toArray.size = ts.length + 1 := by rw [List.size_toArray]; exact hl
  refine wpAny_getItem_list_neg (x := .str z t') ⟨_, ho, rfl, n, rfl⟩ (by decide) (by rw [e]; omega) (by decide) ?_ (h t')
  rw [e]
  have : ((-1 : Int) + ((ts.length + 1 : Nat) : Int)).toNat = ts.length := by omega
  rw [this]; simpa using ht
theorem typeT' {b : Addr} {ts : List Str} (H : HasT s.heap b ts) : s.TypeIs (.ref b) "list" := by
  obtain ⟨o, ho, vs, hv, n, rfl⟩ := H
  exact ⟨_, ho, rfl⟩
end

/-- texts made of texts, one by one -/
theorem paired_strs {f : List Nat → List Nat} : ∀ {rs : List (List Nat)} {vs ys : List Value}, StrsAre vs (rs.map S) → Paired (fun v y => ∀ r t, v = .str (S r) t → ∃ u, y = .str (S (f r)) u) (vs.filter fun _ => true) ys → StrsAre ys ((rs.map f).map S)
  | [], _, ys, .nil, h => by cases h; exact .nil
  | r :: rs, _, ys, .cons _ t hv, h => by
    cases h with
    | cons h1 h2 =>
      obtain ⟨u, rfl⟩ := h1 r t rfl
      exact .cons _ u (paired_strs hv h2)
section
variable {prog : Program} {w : World} {mg mb : Str → Option Value} {A : Around} {E : Value → Shared → Prop} {s s₀ : Shared} {h₀ : Heap} {L a : Addr} {cn : Str} {cs : Scope} {ccd : Value} {cel : List (Str × Addr)} {env : Env}

/-- a list made of texts -/
theorem lcS {f : List Nat → List Nat} {rs : List (List Nat)} {elt iter : Expr} {x : Str} {px pos : Pos} {scope : Scope} {cl : List (Str × Addr)} {Q : Value → Shared → Prop} (hh : A.handled = none)
    (hclos : closureFor scope env = pure cl) (hcell : ∀ y ∈ scope.names, y.2 ≠ .cell) (hkind : scope.kind = .function)
    (hnames : ∀ y ∈ scope.names, y.2 = .local → scope.names.lookup y.1 = some .local) (hx : scope.names.lookup x = some .local)
    (h : wpAny (model prog w) A (eval iter env) (fun xv s₁ => ∃ b l nw, xv = .ref b ∧ St w mg mb h₀ L l nw s₁.heap ∧ HasT s₁.heap b (rs.map S) ∧ rs.length ≤ 16777216 ∧
      (∀ C r t s₃ m₃ E', r ∈ rs → s₃.heap.Ns C m₃ → m₃ x = some (.str (S r) t) → Kp s₁.heap s₃.heap →
        wpAny (model prog w) A (eval elt (compEnvC scope cl C env)) (fun y s₄ => (∃ u, y = .str (S (f r)) u) ∧ Keeps s₃ s₄) E' s₃) ∧
      (∀ D h' tk, St w mg mb h₀ L l ((D, isT ((rs.map f).map S)) :: nw) h' → Kp s₁.heap h' → Q (.ref D) { s₁ with heap := h', toks := tk })) E s)
    (hs : ∀ x, foldedSetIterable iter env x = pure x := by intro _; rfl) :
    wpAny (model prog w) A (eval (.ListComp elt [⟨.Name x px, iter, [], 0⟩] scope pos) env) Q E s := by
  refine wpAny_ListComp_free (fun _ => true) (fun v y => ∀ r t, v = .str (S r) t → ∃ u, y = .str (S (f r)) u) hclos hcell hkind hnames hx (wpAny_mono h (fun xv s₁ h₁ => ?_) fun _ _ x => x) hs
  obtain ⟨b, l, nw, rfl, C, ⟨o, ho, vs, hv, n, rfl⟩, hsz, helt, hQ⟩ := h₁
  have hl : s₁.heap.IsList b vs.toArray := ⟨_, ho, rfl, n, rfl⟩
  have hlt := Heap.lt_size ho
  refine wpAny_pyIter_list hl ⟨s₁.heap.objs.size, [s₁.heap.objs.size, b], [s₁.heap.objs.size], vs.toArray.size, _, _, rfl, Walks.list hh _ _ (Nat.ne_of_lt hlt) vs.toArray, ?_, ⟨⟨_, Heap.get?_push_size _ rfl, rfl, rfl⟩, hl.push _⟩, ?_, ⟨?_, ?_⟩, ?_⟩
  · rw [List.size_toArray, hv.length, List.length_map, sz16]; exact hsz
  · intro c hc
    show c < (s₁.heap.push _).objs.size
    rw [Heap.size_push]
    rcases List.mem_cons.mp hc with rfl | hc
    · exact Nat.lt_succ_self _
    · rcases List.mem_cons.mp hc with rfl | hc
      · exact Nat.lt_succ_of_lt hlt
      · cases hc
  · intro C i v s₃ m₃ E' _ hP hn hm hk htk
    rw [List.forIn_nil]
    exact wpAny_pure ⟨rfl, ⟨s₃.heap, s₃.toks, rfl, fun _ _ e => e⟩⟩
  · intro C i v s₃ m₃ E' _ hP _ hn hm hk htk
    have hvi : vs[i]? = some v := by simpa using hP
    have hi : i < rs.length := by
      have := (List.getElem?_eq_some_iff.mp hvi).1
      rw [hv.length, List.length_map] at this; exact this
    obtain ⟨t, ht⟩ := hv.get i (S rs[i]) (by simp [hi])
    rw [hvi] at ht
    cases Option.some.inj ht
    refine wpAny_mono (helt C rs[i] t s₃ m₃ E' (List.getElem_mem hi) hn hm (fun c o e => hk c o ?_ (Heap.get?_push_of_some _ e))) (fun y s₄ h₄ => ⟨?_, h₄.2⟩) fun _ _ x => x
    · intro hc
      rcases List.mem_cons.mp hc with rfl | hc
      · exact absurd (Heap.lt_size e) (Nat.lt_irrefl _)
      · cases hc
    · intro r t' e
      cases e
      exact h₄.1
  · intro D h' tk ys vs' hD hlD hpD hlen hP hF hk
    have hkp : Kp s₁.heap h' := fun c o e => hk c o (by
      intro hc
      rcases List.mem_cons.mp hc with rfl | hc
      · exact absurd (Heap.lt_size e) (Nat.lt_irrefl _)
      · cases hc) (Heap.get?_push_of_some _ e)
    have hvs : vs' = vs := by
      have := list_of_places (items := vs.toArray) hlen (fun j v hj => hP j v hj)
      simpa using this
    subst hvs
    obtain ⟨n', hpo⟩ := hpD
    have hD' : s₁.heap.get? D = none := by
      cases e : s₁.heap.get? D with
      | none => rfl
      | some o' => have := Heap.get?_push_of_some { cls := .type "list_iterator", data := .fields #[.ref b, .int 0 0] } e; rw [hD] at this; cases this
    refine hQ D h' tk (C.add hkp hD' hpo ⟨ys.toList, paired_strs hv hF, n', by simp⟩) hkp

/-- the same, told to a name at once -/
theorem lcA {f : List Nat → List Nat} {rs : List (List Nat)} {elt iter : Expr} {x y : Str} {px py pos spos : Pos} {scope : Scope} {cl : List (Str × Addr)} {Q : Flow → Shared → Prop} (hh : A.handled = none)
    (hclos : closureFor scope (envX cn cs L a ccd cel) = pure cl) (hcell : ∀ y ∈ scope.names, y.2 ≠ .cell) (hkind : scope.kind = .function)
    (hnames : ∀ y ∈ scope.names, y.2 = .local → scope.names.lookup y.1 = some .local) (hx : scope.names.lookup x = some .local)
    (h : wpAny (model prog w) A (eval iter (envX cn cs L a ccd cel)) (fun xv s₁ => ∃ b l nw, xv = .ref b ∧ St w mg mb h₀ L l nw s₁.heap ∧ SameO s₀ s₁ ∧ HasT s₁.heap b (rs.map S) ∧ rs.length ≤ 16777216 ∧
      (∀ C r t s₃ m₃ E', r ∈ rs → s₃.heap.Ns C m₃ → m₃ x = some (.str (S r) t) → Kp s₁.heap s₃.heap →
        wpAny (model prog w) A (eval elt (compEnvC scope cl C (envX cn cs L a ccd cel))) (fun y s₄ => (∃ u, y = .str (S (f r)) u) ∧ Keeps s₃ s₄) E' s₃) ∧
      (∀ D s', St w mg mb h₀ L ((y, .ref D) :: l) ((D, isT ((rs.map f).map S)) :: nw) s'.heap → SameO s₀ s' → Q .next s')) E s)
    (hsw : swapsWith (.ListComp elt [⟨.Name x px, iter, [], 0⟩] scope pos) (some (.Name y py)) spos.line (envX cn cs L a ccd cel) = pure true := by rfl)
    (hk : cs.kind = .function := by rfl) (hy : (envX cn cs L a ccd cel).kindOf y = some .local := by rfl)
    (hs : ∀ x, foldedSetIterable iter (envX cn cs L a ccd cel) x = pure x := by intro _; rfl) :
    wpAny (model prog w) A (exec (.Assign [.Name y py] (.ListComp elt [⟨.Name x px, iter, [], 0⟩] scope pos) spos) (envX cn cs L a ccd cel)) Q E s := by
  refine wpAny_Assign_ListComp_free (fun _ => true) (fun v y => ∀ r t, v = .str (S r) t → ∃ u, y = .str (S (f r)) u) hsw hclos hcell hkind hnames hx hy
    (by show (cs.kind == .class || (cs.kind == .module && L != mainGlobals)) = false; rw [hk]; rfl) (wpAny_mono h (fun xv s₁ h₁ => ?_) fun _ _ x => x) hs
  obtain ⟨b, l, nw, rfl, C, O, ⟨o, ho, vs, hv, n, rfl⟩, hsz, helt, hQ⟩ := h₁
  have hl : s₁.heap.IsList b vs.toArray := ⟨_, ho, rfl, n, rfl⟩
  have hlt := Heap.lt_size ho
  obtain ⟨m, F, hm⟩ := C.F
  have hLs : L ≠ s₁.heap.objs.size := by
    obtain ⟨oL, e⟩ := C.liveL
    exact Nat.ne_of_lt (Heap.lt_size e)
  refine wpAny_pyIter_list hl ⟨s₁.heap.objs.size, [s₁.heap.objs.size, b], [s₁.heap.objs.size], vs.toArray.size, _, _, m, rfl, Walks.list hh _ _ (Nat.ne_of_lt hlt) vs.toArray, ?_, ⟨⟨_, Heap.get?_push_size _ rfl, rfl, rfl⟩, hl.push _⟩, ?_, ?_, ?_, ⟨?_, ?_⟩, ?_⟩
  · rw [List.size_toArray, hv.length, List.length_map, sz16]; exact hsz
  · intro c hc
    show c < (s₁.heap.push _).objs.size
    rw [Heap.size_push]
    rcases List.mem_cons.mp hc with rfl | hc
    · exact Nat.lt_succ_self _
    · rcases List.mem_cons.mp hc with rfl | hc
      · exact Nat.lt_succ_of_lt hlt
      · cases hc
  · intro hc
    rcases List.mem_cons.mp hc with e | hc
    · exact hLs e
    · cases hc
  · exact (F.push _).ns
  · intro C i v s₃ m₃ E' _ hP hn hm hk htk
    rw [List.forIn_nil]
    exact wpAny_pure ⟨rfl, ⟨s₃.heap, s₃.toks, rfl, fun _ _ e => e⟩⟩
  · intro C i v s₃ m₃ E' _ hP _ hn hm hk htk
    have hvi : vs[i]? = some v := by simpa using hP
    have hi : i < rs.length := by
      have := (List.getElem?_eq_some_iff.mp hvi).1
      rw [hv.length, List.length_map] at this; exact this
    obtain ⟨t, ht⟩ := hv.get i (S rs[i]) (by simp [hi])
    rw [hvi] at ht
    cases Option.some.inj ht
    refine wpAny_mono (helt C rs[i] t s₃ m₃ E' (List.getElem_mem hi) hn hm (fun c o e => hk c o ?_ (Heap.get?_push_of_some _ e))) (fun y s₄ h₄ => ⟨?_, h₄.2⟩) fun _ _ x => x
    · intro hc
      rcases List.mem_cons.mp hc with rfl | hc
      · exact absurd (Heap.lt_size e) (Nat.lt_irrefl _)
      · cases hc
    · intro r t' e
      cases e
      exact h₄.1
  · intro D h' tk ys vs' hD hlD hpD hlen hP hF hns hk
    have hkp : ∀ c o, c ≠ L → s₁.heap.get? c = some o → h'.get? c = some o := fun c o hcL e => hk c o hcL (by
      intro hc
      rcases List.mem_cons.mp hc with rfl | hc
      · exact absurd (Heap.lt_size e) (Nat.lt_irrefl _)
      · cases hc) (Heap.get?_push_of_some _ e)
    have hvs : vs' = vs := by
      have := list_of_places (items := vs.toArray) hlen (fun j v hj => hP j v hj)
      simpa using this
    subst hvs
    obtain ⟨n', hpo⟩ := hpD
    have hD' : s₁.heap.get? D = none := by
      cases e : s₁.heap.get? D with
      | none => rfl
      | some o' => have := Heap.get?_push_of_some { cls := .type "list_iterator", data := .fields #[.ref b, .int 0 0] } e; rw [hD] at this; cases this
    refine hQ D _ ?_ O
    refine ⟨⟨_, ⟨hns, fun c o e => hkp c o (Nat.ne_of_lt (Nat.lt_of_lt_of_le (Heap.lt_size e) F.above)) (F.keep c o e), F.above⟩, fun z v e => lookup_cons_put hm e⟩, fun p hp => ?_, ?_, C.G⟩
    · rcases List.mem_cons.mp hp with rfl | hp
      · refine ⟨⟨_, hpo, ys.toList, paired_strs hv hF, n', by simp⟩, ?_, ?_⟩
        · rintro (rfl : D = L)
          obtain ⟨oL, e⟩ := C.liveL
          rw [hD'] at e; cases e
        · cases e : h₀.get? D with
          | none => rfl
          | some o' => have := F.keep _ _ e; rw [hD'] at this; cases this
      · obtain ⟨⟨o, a1, a2⟩, b1, c1⟩ := C.N p hp
        exact ⟨⟨o, hkp _ _ b1 a1, a2⟩, b1, c1⟩
    · refine List.nodup_cons.mpr ⟨fun hx => ?_, C.D⟩
      obtain ⟨q, hq, (e : q.1 = D)⟩ := List.mem_map.mp hx
      obtain ⟨⟨o', a1, _⟩, _⟩ := C.N q hq
      rw [e, hD'] at a1; cases a1
end

def blot (n : Nat) (rows : List (List Nat)) : List (List Nat) := match rows.getLast? with
  | some [] => (rows.dropLast.map fun r => List.replicate n 32 ++ r.drop n) ++ [[]]
  | _ => rows.map fun r => List.replicate n 32 ++ r.drop n

section
variable {prog : Program} {w : World} {mg mb : Str → Option Value} {A : Around} {E : Value → Shared → Prop} {s : Shared} {t u : Tok} {Q : Value → Shared → Prop}
theorem mulS {n : Nat} (h : ∀ t' k, Q (.str (S (List.replicate n 32)) t') { s with toks := k }) (hn : n ≤ 1000) : wpAny (model prog w) A (binaryOp .Mult (.str (S [32]) t) (.int n u)) Q E s := by
  have e : Txt.mul (S [32]) (n : Int) = S (List.replicate n 32) := by
    unfold Txt.mul
    split
    · have : n = 0 := by omega
      subst this; rfl
    · split
      · rename_i h1 h2
        have : n = 1 := by
          simp only [Bool.or_eq_true, beq_iff_eq] at h2
          rcases h2 with h2 | h2
          · omega
          · exact absurd h2 (by decide)
        subst this; rfl
      · refine Str.ext' ?_
        show (List.replicate (n : Int).toNat (#[32] : Array Nat)).foldl (· ++ ·) #[] = (List.replicate n 32).toArray
        rw [Int.toNat_natCast]
        have key : ∀ (k : Nat) (acc : Array Nat), (List.replicate k (#[32] : Array Nat)).foldl (· ++ ·) acc = acc ++ (List.replicate k 32).toArray := by
          intro k
          induction k with
          | zero => intro acc; simp
          | succ k ih => intro acc; rw [List.replicate_succ, List.foldl_cons, ih, List.replicate_succ]; apply Array.toList_inj.mp; simp
        rw [key]; simp
  have h' := h
  rw [← e] at h'
  refine SB.mul ⟨?_, ?_, ?_⟩ h'
  · simp only [Bool.or_eq_false_iff, decide_eq_false_iff_not]; omega
  · intro h1 h2
    show ¬ ((1 : Int) > (2 ^ 63 - 1) / n)
    have : (1 : Int) ≤ (2 ^ 63 - 1) / n := Int.le_ediv_of_mul_le (by omega) (by omega)
    omega
  · intro h1 h2
    show decide (1 * (n : Int).toNat > sizeLine) = false
    rw [sz16]
    exact decide_eq_false (by omega)
end
end
end Mine
end

-- W9
section
set_option maxRecDepth 100000
set_option linter.unusedVariables false
set_option Elab.async false
namespace Mine
open PySem PySem.W PyProof.Rows PySem.Calls PySem.Builtin PySem.Builtin.Str

noncomputable section
theorem fill6 : (PySem.Challenge.rw_lg0018_01, hd.heap_39) = (PySem.Challenge.rw_lg0018_01, hd.heap_39) := by k_fill; rfl

section
variable {prog : Program} {w : World} {mg mb : Str → Option Value} {A : Around} {E : Value → Shared → Prop} {s : Shared} {t u : Tok} {Q : Value → Shared → Prop}
theorem rdCL {sc : Scope} {cl : List (Str × Addr)} {C : Addr} {env : Env} {m : Str → Option Value} {x : Str} {v : Value} {pos : Pos} (hn : s.heap.Ns C m) (hv : m x = some v) (h : Q v s)
    (hk : (compEnvC sc cl C env).scope.kind = .function := by rfl) (hl : (compEnvC sc cl C env).kindOf x = some .local := by rfl) (hd : (x == ("__debug__" : Str)) = false := by decide) :
    wpAny (model prog w) A (eval (.Name x pos) (compEnvC sc cl C env)) Q E s := wpAny_Name (wpAny_loadName_local hk hl hn hv h) hd
theorem rdCC {sc : Scope} {cl : List (Str × Addr)} {C c : Addr} {env : Env} {x : Str} {v : Value} {pos : Pos} (hc : cl.lookup x = some c) (hv : s.heap.IsCell c (some v)) (h : Q v s)
    (hk : (compEnvC sc cl C env).scope.kind = .function := by rfl) (hl : (compEnvC sc cl C env).kindOf x = some .cell := by rfl) (hd : (x == ("__debug__" : Str)) = false := by decide) :
    wpAny (model prog w) A (eval (.Name x pos) (compEnvC sc cl C env)) Q E s := wpAny_Name (wpAny_loadName_cell hk hl hc hv h) hd
theorem St.cell {h₀ h h' : Heap} {L c : Addr} {l : List (Str × Value)} {nw : List (Addr × Shp)} {v : Option Value} (C : St w mg mb h₀ L l nw h) (hm : (c, isC v) ∈ nw) (k : Kp h h') : h'.IsCell c v := let ⟨o, a, b⟩ := C.get hm; ⟨o, k _ _ a, b⟩
theorem wtL_dl (r : List (List Nat)) : wtL r.dropLast ≤ wtL r := by
  cases h : r.getLast? with
  | none => rw [List.getLast?_eq_none_iff.mp h]; exact Nat.le_refl _
  | some z =>
    have : r = r.dropLast ++ [z] := by
      have hne : r ≠ [] := by rintro rfl; cases h
      have := List.dropLast_concat_getLast hne
      rw [List.getLast?_eq_some_getLast hne] at h
      rw [← Option.some.inj h]; exact this.symm
    conv => rhs; rw [this]
    rw [wtL_app]; omega
theorem wtL_map {n : Nat} (rs : List (List Nat)) : wtL (rs.map fun r => List.replicate n 32 ++ r.drop n) ≤ wtL rs + n * rs.length := by
  induction rs with
  | nil => exact Nat.zero_le _
  | cons r rs ih => rw [List.map_cons, wtL_cons, wtL_cons, List.length_cons, List.length_append, List.length_replicate, List.length_drop, Nat.mul_succ]; omega

set_option maxHeartbeats 4000000 in
theorem blot_spec {rows : List (List Nat)} {b : Addr} {n : Nat} (G : Gd w mg mb s.heap) (hroom : A.depth + 5 < recursionLimit) (hh : A.handled = none) (H : HasT s.heap b (rows.map S)) (h0 : rows ≠ []) (hw : wtL rows ≤ 1000000) (hn : n ≤ 8)
   (h : ∀ h' tk t', Kp s.heap h' → Q (.str (S (joinL (blot n rows))) t') { s with heap := h', toks := tk }) :
   wpAny (model prog w) A (call (.ref 86) [.ref b, .int n u]) Q E s := by
  have hlen := wtL_len rows
  refine' call_fnC (f := 86) (binds := [(Str.ofString "rows", .ref b), (Str.ofString "size", .int n u)]) (lm := [(Str.ofString "rows", .ref b)]) (cl := fun L => [(Str.ofString "size", L + 1)]) (cm := fun L => [(L + 1, some (.int n u))]) G (by omega) ?ho ?hcd ?hb ?hkd ?hnd ?hcl ?hcm ?hcd2 ?hl ?h1 ?h2 ?h3 ?_
  case ho => k_is
  case hcd => k_is
  case hb => exact rfl
  case hkd => exact rfl
  case hnd => decide
  case hcl => exact fun _ => rfl
  case hcm => exact fun _ => rfl
  case hcd2 => exact fun _ => List.nodup_cons.mpr ⟨List.not_mem_nil, List.nodup_nil⟩
  case hl => exact ⟨rfl, trivial⟩
  case h1 => exact rfl
  case h2 => exact rfl
  case h3 => exact rfl
  intro L h₁ tk C hLe
  have O : SameO s { s with heap := h₁, toks := tk } := SameO.refl s
  have C : St w mg mb s.heap L [(Str.ofString "rows", .ref b)] [(L + 1, isC (some (.int n u)))] h₁ := C
  obtain ⟨zs, z, hz⟩ : ∃ zs z, rows = zs ++ [z] := ⟨rows.dropLast, rows.getLast h0, (List.dropLast_concat_getLast h0).symm⟩
  refine wpAny_execs_cons (lcA (f := fun r => List.replicate n 32 ++ r.drop n) (rs := rows) (cl := [(Str.ofString "size", L + 1)]) hh rfl (by decide) rfl (by decide) rfl (rdL C rfl ⟨b, _, _, rfl, C, O, H.kp C.kp, by omega, ?_, ?_⟩))
  · intro D r t s₃ m₃ E' hr hns hm hk
    have hrl := wtL_mem hr
    refine wpAny_BinOp (wpAny_BinOp (constS (x := [32]) (by decide +kernel) fun t1 k1 => rdCC rfl (C.cell (.head _) hk) (mulS (fun t2 k2 => ?_) (by omega))))
    refine sliceS (rdCL hns hm (partE (rdCC rfl (C.cell (.head _) hk) (partN ⟨r, t, some (n, u), none, rfl, rfl, rfl, by omega, fun t3 k3 h' hk' => ?_⟩))))
    have hc := cut_from r n
    rw [show (none : Option (Int × Tok)).map (·.1) = none from rfl, show (some ((n : Int), u)).map (·.1) = some (n : Int) from rfl, hc]
    refine addS (fun t4 k4 => ⟨⟨t4, rfl⟩, ⟨h', k4, rfl, hk'⟩⟩) ?_
    rw [List.length_replicate, List.length_drop]; omega
  · intro D s₁ C O
    show wpAny _ _ (execs _ _) _ _ _
    refine seqJ (fun s' => St w mg mb s.heap L [(Str.ofString "blank", .ref D)] [(D, isT ((blot n rows).map S))] s'.heap ∧ SameO s s') ?_ ?_
    · have H1 : HasT s₁.heap b (zs.map S ++ [S z]) := by have := H.kp C.kp; rw [hz, List.map_append] at this; exact this
      refine wpAny_If (wpAny_isTrue_Compare1 (subL (rdL C rfl (wpAny_UnaryOp (wpAny_Constant_int (P.neg_int ⟨b, _, _, rfl, rfl, typeT' H1, getLastT' H1 fun t5 => constS (x := []) (by decide +kernel) fun t6 k6 => eqS (wpAny_truthy_bool ?_)⟩))))))
      by_cases hze : z = []
      · rw [if_pos (by rw [hze]; rfl)]
        have hbl : (blot n rows).map S = (zs.map fun r => List.replicate n 32 ++ r.drop n).map S ++ [S []] := by
          unfold blot
          rw [hz, hze, List.getLast?_concat, List.dropLast_concat, List.map_append]; rfl
        have hC : ((rows.map fun r => List.replicate n 32 ++ r.drop n).map S) = (zs.map fun r => List.replicate n 32 ++ r.drop n).map S ++ [S (List.replicate n 32)] := by
          rw [hz, hze, List.map_append, List.map_append]; simp
        rw [hC] at C
        refine wpAny_execs_cons (wpAny_Assign_Subscript (constS (x := []) (by decide +kernel) fun t7 k7 => rdL C rfl (wpAny_UnaryOp (wpAny_Constant_int (P.neg_int ?_)))))
        refine setLastT C .head fun h' C => ?_
        refine wpAny_execs_nil ⟨rfl, ?_, O⟩
        rw [hbl]
        exact (C.drop (nw' := [_]) (List.Sublist.cons₂ _ (List.nil_sublist _))).sub ⟨rfl, trivial⟩
      · rw [if_neg (by simpa using hze)]
        have hbl : blot n rows = rows.map fun r => List.replicate n 32 ++ r.drop n := by
          unfold blot
          rw [hz, List.getLast?_concat]
          cases z with
          | nil => exact absurd rfl hze
          | cons c r => rfl
        rw [hbl]
        exact wpAny_execs_nil ⟨rfl, (C.drop (nw' := [_]) (List.Sublist.cons₂ _ (List.nil_sublist _))).sub ⟨rfl, trivial⟩, O⟩
    · rintro s₂ ⟨C, O⟩
      refine wpAny_execs_cons (wpAny_Return_some ?_)
      refine meth1 F.plainAttrs_str F.slot_str_join F.type_str_join (constS (x := [10]) (by decide +kernel) fun t11 k11 => ⟨typeIs_str _ _ _, fun a ha => (nomatch ha), sp1 (rdL C rfl ?_)⟩)
      refine joinS C (.head _) ?_ (fun t12 k12 => ?_)
      · have hb : wtL (blot n rows) ≤ 10000000 := by
          have h1 := wtL_map (n := n) rows
          have h3 := wtL_map (n := n) rows.dropLast
          have h4 := wtL_dl rows
          have h5 : rows.dropLast.length ≤ rows.length := by rw [List.length_dropLast]; omega
          have h6 : n * rows.length ≤ 8 * 1000000 := Nat.mul_le_mul hn (by omega)
          have h7 : n * rows.dropLast.length ≤ 8 * 1000000 := Nat.mul_le_mul hn (by omega)
          unfold blot
          split
          · rw [wtL_app, wtL_cons, wtL_nil]; simp only [List.length_nil]; omega
          · omega
        unfold wtL at hb
        omega
      · have e := O.eq
        have := h _ k12 t12 C.kp
        rw [e]
        exact this
end
end
end Mine
end

-- W10
section
set_option maxRecDepth 100000
set_option linter.unusedVariables false
set_option Elab.async false
namespace Mine
open PySem PySem.W PyProof.Rows PySem.Calls PySem.Builtin PySem.Builtin.Str

noncomputable section
theorem fill7 : (PySem.Challenge.rw_lg0018_01, hd.heap_39) = (PySem.Challenge.rw_lg0018_01, hd.heap_39) := by k_fill; rfl

section
variable {prog : Program} {w : World} {A : Around} {E : Value → Shared → Prop} {s : Shared} {a b : Addr} {Q : Value → Shared → Prop} {xs : List Value} {ts : List Str}
theorem neNil (ha : s.heap.IsList a xs.toArray) (hb : s.heap.IsList b (([] : List Value).toArray)) (hu : A.units < cLine) (h : Q (.bool (!xs.isEmpty)) s) : wpAny (model prog w) A (compareOp .NotEq (.ref a) (.ref b)) Q E s := by
  cases xs with
  | nil =>
    refine PySem.SeqAt.RcNeAt.lists (e := fun _ => true) ha hb rfl hu (fun j h1 => absurd h1 (Nat.not_lt_zero _)) prog w E Q ?_
    exact h
  | cons c r => exact PySem.SeqAt.RcNeAt.lists_lengths ha hb (by simp) hu prog w E Q h
theorem eqNil (ha : s.heap.IsList a xs.toArray) (hb : s.heap.IsList b (([] : List Value).toArray)) (hu : A.units < cLine) (h : Q (.bool xs.isEmpty) s) : wpAny (model prog w) A (compareOp .Eq (.ref a) (.ref b)) Q E s := by
  cases xs with
  | nil =>
    refine PySem.SeqAt.RcAt.lists (e := fun _ => true) ha hb rfl hu (fun j h1 => absurd h1 (Nat.not_lt_zero _)) prog w E Q ?_
    exact h
  | cons c r => exact PySem.SeqAt.RcAt.lists_lengths ha hb (by simp) hu prog w E Q h
theorem HasT.isEmpty {h : Heap} (H : HasT h a ts) : ∃ xs : List Value, h.IsList a xs.toArray ∧ xs.isEmpty = ts.isEmpty := by
  obtain ⟨o, ho, vs, hv, n, rfl⟩ := H
  refine ⟨vs, ⟨_, ho, rfl, n, rfl⟩, ?_⟩
  cases hv <;> rfl
theorem neNilT (ha : HasT s.heap a ts) (hb : HasT s.heap b []) (hu : A.units < cLine) (h : Q (.bool (!ts.isEmpty)) s) : wpAny (model prog w) A (compareOp .NotEq (.ref a) (.ref b)) Q E s := by
  obtain ⟨xs, h1, h2⟩ := ha.isEmpty
  obtain ⟨o, ho, vs, hv, n, rfl⟩ := hb
  cases hv
  exact neNil h1 ⟨_, ho, rfl, n, rfl⟩ hu (by rw [h2]; exact h)
theorem eqNilT (ha : HasT s.heap a ts) (hb : HasT s.heap b []) (hu : A.units < cLine) (h : Q (.bool ts.isEmpty) s) : wpAny (model prog w) A (compareOp .Eq (.ref a) (.ref b)) Q E s := by
  obtain ⟨xs, h1, h2⟩ := ha.isEmpty
  obtain ⟨o, ho, vs, hv, n, rfl⟩ := hb
  cases hv
  exact eqNil h1 ⟨_, ho, rfl, n, rfl⟩ hu (by rw [h2]; exact h)
end
section
variable {prog : Program} {w : World} {mg mb : Str → Option Value} {A : Around} {E : Value → Shared → Prop} {s : Shared} {h₀ : Heap} {L a : Addr} {l : List (Str × Value)} {nw nw' : List (Addr × Shp)} {cn : Str} {cs : Scope} {ccd : Value} {cl : List (Str × Addr)}
  {x : Str} {pos : Pos} {v : Value} {Q : Value → Shared → Prop} {env : Env}
theorem ldL (C : St w mg mb h₀ L l nw s.heap) (hv : l.lookup x = some v) (h : Q v s)
    (hk : cs.kind = .function := by rfl) (hx : (envX cn cs L a ccd cl).kindOf x = some .local := by rfl) :
    wpAny (model prog w) A (loadName (envX cn cs L a ccd cl) x) Q E s := let ⟨_, F, hm⟩ := C.F; wpAny_loadName_local hk hx F.ns (hm _ _ hv) h
/-- the empty display -/
theorem nilL (C : St w mg mb h₀ L l nw s.heap) (h : ∀ b h', St w mg mb h₀ L l ((b, isT []) :: nw) h' → Q (.ref b) { s with heap := h' }) : wpAny (model prog w) A (eval (.List [] pos) env) Q E s :=
  wpAny_List_spliced (args_nil ⟨by rw [sz16]; simp, h _ _ (C.push ⟨[], .nil, _, rfl⟩)⟩)
end

/-- the first paragraph is set -/
def SetOk (ls : List (List Nat)) (lim : Int) : Prop :=
  ∀ k (h : k < ls.length), (ls.takeWhile isW).length ≤ k → k < (ls.takeWhile isW).length + ((ls.drop (ls.takeWhile isW).length).takeWhile nW).length →
    ((xtab 0 ls[k]).length : Int) ≤ lim ∧ ∀ h2 : k + 1 < ls.length, isW ls[k + 1] = false → lim < ((xtab 0 ls[k]).length : Int) + 2 + (word1 ls[k + 1]).length

section
variable {prog : Program} {w : World} {mg mb : Str → Option Value} {A : Around} {E : Value → Shared → Prop} {s : Shared} {t u : Tok} {Q : Value → Shared → Prop}
set_option maxHeartbeats 4000000 in
theorem set_spec {ls : List (List Nat)} {b : Addr} {lim : Int} (G : Gd w mg mb s.heap) (hroom : A.depth + 5 < recursionLimit) (hh : A.handled = none) (hu : A.units + 100 < cLine) (H : HasT s.heap b (ls.map S)) (hw : wtL ls ≤ 1000000) (hok : SetOk ls lim)
   (h : ∀ h' tk, Kp s.heap h' → Q (.bool true) { s with heap := h', toks := tk }) :
   wpAny (model prog w) A (call (.ref 93) [.ref b, .int lim u]) Q E s := by
  have hlen := wtL_len ls
  have hgl : ∀ i (h : i < ls.length), ls[i].length ≤ 1000000 := fun i h => by have := wtL_mem (List.getElem_mem h); omega
  have hn0 := tw_le isW ls
  refine' call_fn3 (f := 93) (binds := [(Str.ofString "lines", .ref b), (Str.ofString "limit", .int lim u)]) G (by omega) ?ho ?hcd ?hb ?hl ?hc ?h1 ?h2 ?h3 ?_
  case ho => k_is
  case hcd => k_is
  case hb => exact rfl
  case hl => exact rfl
  case hc => exact rfl
  case h1 => exact rfl
  case h2 => exact rfl
  case h3 => exact rfl
  intro L h₁ tk C
  have O : SameO s { s with heap := h₁, toks := tk } := SameO.refl s
  refine wpAny_execs_cons (wpAny_Assign_Name (wpAny_Constant_int (stX C O fun s₁ C O => ?_)))
  show wpAny _ _ (execs _ _) _ _ _
  refine seqJ (fun s' => ∃ tk, St w mg mb s.heap L [(Str.ofString "k", .int ((ls.takeWhile isW).length : Nat) tk), (Str.ofString "lines", .ref b), (Str.ofString "limit", .int lim u)] [] s'.heap ∧ SameO s s') ?_ ?_
  · refine while_inv (fun n s' => ∃ i tk, St w mg mb s.heap L [(Str.ofString "k", .int (i : Nat) tk), (Str.ofString "lines", .ref b), (Str.ofString "limit", .int lim u)] [] s'.heap ∧ SameO s s' ∧
      n = ls.length - i ∧ i ≤ (ls.takeWhile isW).length) _ ?_ ls.length ⟨0, _, C.sub ⟨rfl, rfl, rfl, trivial⟩, O, rfl, Nat.zero_le _⟩ (fun s' hs' => ⟨rfl, hs'⟩)
    clear C O
    rintro n s' ⟨i, tk', C, O, rfl, hile⟩
    have H1 := H.kp C.kp
    refine isTrue_and (wpAny_isTrue_Compare1 (rdL C rfl (callB C (by k_is) (by boot_fast) (sp1 (rdL C rfl (lenT' H1 (by rw [List.length_map]; omega) fun t2 k2 => P.lt_int (wpAny_truthy_bool ?_)))))))
    rw [List.length_map]
    by_cases hlt : i < ls.length
    · rw [if_pos (decide_eq_true (show (i : Int) < ls.length by omega))]
      have hst := tw_next hile hlt
      refine isTrue_and (wpAny_isTrue_Compare1 (meth0 F.plainAttrs_str F.slot_str_strip F.type_str_strip (subL (rdL C rfl (rdL C rfl ?_)))))
      refine ⟨b, _, _, rfl, rfl, typeT' H1, getT' (z := S ls[i]) H1 (by omega) (by omega) (get_map hlt) fun t3 => ⟨typeIs_str _ _ _, fun a ha => (nomatch ha), ?_⟩⟩
      refine strip_eq_nil (fun y t4 k4 hy => constS (x := []) (by decide +kernel) fun t5 k5 => eqS (wpAny_truthy_bool ?_)) (by have := hgl i hlt; omega)
      rw [hy]
      by_cases hwh : isW ls[i] = true
      · rw [if_pos hwh]; rw [if_pos hwh] at hst
        refine isTrue_and_nil ?_
        rw [if_pos rfl]
        refine wpAny_execs_cons (wpAny_AugAssign_Name (ldL C rfl (wpAny_Constant_int (P.iadd_int (stX C O fun s₄ C O => wpAny_execs_nil ?_)))))
        exact ⟨.inl rfl, _, by omega, i + 1, _, C.sub ⟨rfl, rfl, rfl, trivial⟩, O, rfl, hst⟩
      · rw [if_neg hwh]; rw [if_neg hwh] at hst
        rw [if_neg Bool.false_ne_true]
        subst hst
        exact ⟨_, C, O⟩
    · have hie : i = (ls.takeWhile isW).length := by omega
      subst hie
      rw [if_neg (by simpa using hlt), if_neg Bool.false_ne_true]
      exact ⟨_, C, O⟩
  clear C O
  rintro s₂ ⟨tk2, C, O⟩
  unfold SetOk at hok
  generalize hi0 : (ls.takeWhile isW).length = i0 at *
  have hBl := tw_le nW (ls.drop i0)
  rw [List.length_drop] at hBl
  refine seqJ (fun s' => ∃ tk, St w mg mb s.heap L [(Str.ofString "k", .int tk 0)] [] s'.heap ∧ SameO s s' ∨ (St w mg mb s.heap L [] [] s'.heap ∧ SameO s s')) ?_ ?_
  · refine while_inv (fun n s' => ∃ k tk, St w mg mb s.heap L [(Str.ofString "k", .int (i0 + k : Nat) tk), (Str.ofString "lines", .ref b), (Str.ofString "limit", .int lim u)] [] s'.heap ∧ SameO s s' ∧
      n = ls.length - (i0 + k) ∧ k ≤ ((ls.drop i0).takeWhile nW).length) _ ?_ (ls.length - i0) ⟨0, _, C.sub ⟨rfl, rfl, rfl, trivial⟩, O, rfl, Nat.zero_le _⟩ (fun s' hs' => ⟨rfl, hs'⟩)
    clear C O
    rintro n s' ⟨k, tk', C, O, rfl, hkle⟩
    have H1 := H.kp C.kp
    have fin : ∀ s'' : Shared, Kp s'.heap s''.heap → SameO s s'' → ∃ tk, St w mg mb s.heap L [(Str.ofString "k", .int tk 0)] [] s''.heap ∧ SameO s s'' ∨ (St w mg mb s.heap L [] [] s''.heap ∧ SameO s s'') := fun s'' hk O => ⟨0, .inr ⟨(C.keeps hk).sub trivial, O⟩⟩
    refine isTrue_and (wpAny_isTrue_Compare1 (rdL C rfl (callB C (by k_is) (by boot_fast) (sp1 (rdL C rfl (lenT' H1 (by rw [List.length_map]; omega) fun t2 k2 => P.lt_int (wpAny_truthy_bool ?_)))))))
    rw [List.length_map]
    by_cases hlt : i0 + k < ls.length
    · rw [if_pos (decide_eq_true (show ((i0 + k : Nat) : Int) < ls.length by omega))]
      have htw := tw_next (p := nW) (ls := ls.drop i0) (i := k) hkle (by rw [List.length_drop]; omega)
      rw [List.getElem_drop] at htw
      refine isTrue_and (wpAny_isTrue_Compare1 (meth0 F.plainAttrs_str F.slot_str_strip F.type_str_strip (subL (rdL C rfl (rdL C rfl ?_)))))
      refine ⟨b, _, _, rfl, rfl, typeT' H1, getT' (z := S ls[i0 + k]) H1 (by omega) (by omega) (get_map hlt) fun t3 => ⟨typeIs_str _ _ _, fun a ha => (nomatch ha), ?_⟩⟩
      refine strip_eq_nil (fun y t4 k4 hy => constS (x := []) (by decide +kernel) fun t5 k5 => neS (wpAny_truthy_bool ?_)) (by have := hgl _ hlt; omega)
      have hyn : (y != []) = nW ls[i0 + k] := by
        show (!(y == [])) = !isW ls[i0 + k]
        rw [hy]
      rw [hyn]
      by_cases hwh : nW ls[i0 + k] = true
      · rw [if_pos hwh]; rw [if_pos hwh] at htw
        obtain ⟨hok1, hok2⟩ := hok (i0 + k) hlt (by omega) (by omega)
        refine isTrue_and_nil ?_
        rw [if_pos rfl]
        have hx8 := xtab_len ls[i0 + k] 0
        have hl8 := hgl _ hlt
        -- width
        refine wpAny_execs_cons (wpAny_Assign_Name (callB C (by k_is) (by boot_fast) (sp1 (meth1 F.plainAttrs_str F.slot_str_expandtabs F.type_str_expandtabs (subL (rdL C rfl (rdL C rfl ?_)))))))
        refine ⟨b, _, _, rfl, rfl, typeT' H1, getT' (z := S ls[i0 + k]) H1 (by omega) (by omega) (get_map hlt) fun t6 => ⟨typeIs_str _ _ _, fun a ha => (nomatch ha), sp1 (wpAny_Constant_int ?_)⟩⟩
        refine wp_expandtabs8 (by show ls[i0 + k].length ≤ _; omega) (fun t7 k7 => lenS (fun t8 k8 => ?_) (by show (xtab 0 ls[i0 + k]).length ≤ _; omega))
        refine stX C O (fun s₃ C O => ?_)
        show wpAny _ _ (execs _ _) _ _ _
        -- following
        refine seqJ (fun s' => ∃ bf ts, (i0 + k + 1 < ls.length → ∃ h2 : i0 + k + 1 < ls.length, (isW ls[i0 + k + 1] = true ∧ ts = []) ∨ (isW ls[i0 + k + 1] = false ∧ ∃ r, ts = S (word1 ls[i0 + k + 1]) :: r)) ∧ (¬ i0 + k + 1 < ls.length → ts = []) ∧ ts.length ≤ 1000002 ∧
          St w mg mb s.heap L [(Str.ofString "following", .ref bf), (Str.ofString "width", .int (xtab 0 ls[i0 + k]).length t8), (Str.ofString "k", .int (i0 + k : Nat) tk'), (Str.ofString "lines", .ref b), (Str.ofString "limit", .int lim u)] [(bf, isT ts)] s'.heap ∧ SameO s s') ?_ ?_
        · have H2 := H.kp C.kp
          refine wpAny_Assign_Name (wpAny_IfExp (wpAny_isTrue_Compare1 (wpAny_BinOp (rdL C rfl (wpAny_Constant_int (P.add_int (callB C (by k_is) (by boot_fast) (sp1 (rdL C rfl (lenT' H2 (by rw [List.length_map]; omega) fun t9 k9 => P.lt_int (wpAny_truthy_bool ?_)))))))))))
          rw [List.length_map]
          by_cases hlt1 : i0 + k + 1 < ls.length
          · rw [if_pos (decide_eq_true (show ((i0 + k : Nat) : Int) + 1 < ls.length by omega))]
            refine meth0 F.plainAttrs_str F.slot_str_split F.type_str_split (subL (rdL C rfl (wpAny_BinOp (rdL C rfl (wpAny_Constant_int (P.add_int ?_))))))
            refine ⟨b, _, _, rfl, rfl, typeT' H2, getT' (z := S ls[i0 + k + 1]) H2 (by omega) (by omega) (get_map hlt1) fun t10 => ⟨typeIs_str _ _ _, fun a ha => (nomatch ha), ?_⟩⟩
            refine split0S C (hgl _ hlt1) (fun bf h' k' ts hts hsz C => ?_)
            refine stX C O (fun s₄ C O => ⟨rfl, bf, ts, fun _ => ⟨hlt1, hts⟩, fun hn => absurd hlt1 hn, hsz, C.sub ⟨rfl, rfl, rfl, rfl, rfl, trivial⟩, O⟩)
          · rw [if_neg (by simpa using (show ¬ (((i0 + k : Nat) : Int) + 1 < ls.length) by omega))]
            refine nilL C (fun bf h' C => ?_)
            refine stX C O (fun s₄ C O => ⟨rfl, bf, [], fun hn => absurd hn hlt1, fun _ => rfl, by simp, C.sub ⟨rfl, rfl, rfl, rfl, rfl, trivial⟩, O⟩)
        · clear C O
          rintro s₄ ⟨bf, ts, hts1, hts2, hsz, C, O⟩
          -- the test
          refine seqJ (fun s' => St w mg mb s.heap L [(Str.ofString "k", .int (i0 + k : Nat) tk'), (Str.ofString "lines", .ref b), (Str.ofString "limit", .int lim u)] [] s'.heap ∧ SameO s s') ?_ ?_
          · refine wpAny_If (isTrue_or (wpAny_isTrue_Compare1 (rdL C rfl (rdL C rfl (P.gt_int (wpAny_truthy_bool ?_))))))
            rw [if_neg (by simpa using hok1)]
            refine isTrue_or (isTrue_and (wpAny_isTrue_Compare1 (rdL C rfl (nilL C fun be h' C => neNilT (C.hasT (.tail _ (.head _))) (C.hasT (.head _)) (by show A.units + 3 < _; omega) (wpAny_truthy_bool ?_)))))
            by_cases hte : ts = []
            · subst hte
              rw [if_neg (show ¬ ((!List.isEmpty ([] : List Str)) = true) from Bool.false_ne_true), if_neg Bool.false_ne_true]
              refine isTrue_or_nil ?_
              rw [if_neg Bool.false_ne_true]
              exact wpAny_execs_nil ⟨rfl, (C.drop (List.nil_sublist _)).sub ⟨rfl, rfl, rfl, trivial⟩, O⟩
            · have hlt1 : i0 + k + 1 < ls.length := Classical.byContradiction fun hn => hte (hts2 hn)
              obtain ⟨_, hc⟩ := hts1 hlt1
              rcases hc with ⟨_, hc⟩ | ⟨hc, r, rfl⟩
              · exact absurd hc hte
              have hfull := hok2 hlt1 hc
              rw [if_pos (show (!List.isEmpty (S (word1 ls[i0 + k + 1]) :: r)) = true from rfl)]
              refine isTrue_and (wpAny_isTrue_Compare1 (wpAny_BinOp (wpAny_BinOp (rdL C rfl (wpAny_Constant_int (P.add_int (callB C (by k_is) (by boot_fast) (sp1 (subL (rdL C rfl (wpAny_Constant_int ?_))))))))))) 
              have hwl : (word1 ls[i0 + k + 1]).length ≤ 1000000 := by
                have h1 := hgl _ hlt1
                have h2 := congrArg List.length (List.takeWhile_append_dropWhile (p := ns) (l := (ls[i0 + k + 1]).dropWhile sp))
                have h3 := dropWhile_length_le sp ls[i0 + k + 1]
                rw [List.length_append] at h2
                unfold word1; omega
              refine ⟨bf, _, _, rfl, rfl, typeT C (.tail _ (.head _)), getT (z := S (word1 ls[i0 + k + 1])) C (.tail _ (.head _)) (by decide) (by decide) rfl fun t11 => lenS (fun t12 k12 => P.add_int (rdL C rfl (P.le_int (wpAny_truthy_bool ?_)))) (by omega)⟩
              rw [if_neg (by simpa using hfull), if_neg Bool.false_ne_true]
              refine isTrue_or_nil ?_
              rw [if_neg Bool.false_ne_true]
              exact wpAny_execs_nil ⟨rfl, (C.drop (List.nil_sublist _)).sub ⟨rfl, rfl, rfl, trivial⟩, O⟩
          · clear C O
            rintro s₅ ⟨C, O⟩
            refine wpAny_execs_cons (wpAny_AugAssign_Name (ldL C rfl (wpAny_Constant_int (P.iadd_int (stX C O fun s₆ C O => wpAny_execs_nil ?_)))))
            exact ⟨.inl rfl, _, by omega, k + 1, _, C.sub ⟨rfl, rfl, rfl, trivial⟩, O, rfl, htw⟩
      · rw [if_neg hwh]
        rw [if_neg Bool.false_ne_true]
        exact fin _ (Kp.refl _) O
    · rw [if_neg (by simpa using (show ¬ (((i0 + k : Nat) : Int) < ls.length) by omega)), if_neg Bool.false_ne_true]
      exact fin _ (Kp.refl _) O
  clear C O
  rintro s₃ ⟨tk3, hC⟩
  have ⟨hk, O⟩ : Kp s.heap s₃.heap ∧ SameO s s₃ := by
    rcases hC with ⟨C, O⟩ | ⟨C, O⟩
    · exact ⟨C.kp, O⟩
    · exact ⟨C.kp, O⟩
  refine wpAny_execs_cons (wpAny_Return_some (wpAny_Constant_bool ?_))
  rw [O.eq]
  exact h _ _ hk
end
end
end Mine
end

-- P3
section
set_option maxRecDepth 100000
set_option linter.unusedVariables false
namespace Mine
open PySem PySem.Builtin PySem.Builtin.Str PyProof.Rows

/-- rows behind a header; a last row that is empty stays so -/
def rowsR (p : List Nat) : List (List Nat) → List (List Nat)
  | [] => []
  | [l] => if l = [] then [[]] else [p ++ l]
  | l :: k :: r => (p ++ l) :: rowsR p (k :: r)
theorem rowsR_cons (p l : List Nat) {r : List (List Nat)} (h : r ≠ []) : rowsR p (l :: r) = (p ++ l) :: rowsR p r := by
  cases r with
  | nil => exact absurd rfl h
  | cons k r => rfl
theorem rowsR_cons' (p l : List Nat) (r : List (List Nat)) (h : l ≠ []) : rowsR p (l :: r) = (p ++ l) :: rowsR p r := by
  cases r with
  | nil => show (if l = [] then _ else _) = _; rw [if_neg h]; rfl
  | cons k r => rfl
theorem rowsR_app (p : List Nat) : ∀ (a b : List (List Nat)), b ≠ [] → rowsR p (a ++ b) = a.map (fun r => p ++ r) ++ rowsR p b
  | [], b, _ => rfl
  | l :: a, b, h => by rw [List.cons_append, rowsR_cons p l (by simp [h]), rowsR_app p a b h]; rfl
theorem rowsR_snoc (p : List Nat) (zs : List (List Nat)) (z : List Nat) : rowsR p (zs ++ [z]) = zs.map (fun r => p ++ r) ++ [if z = [] then [] else p ++ z] := by
  rw [rowsR_app p zs [z] (by simp)]
  unfold rowsR
  split <;> rfl
theorem rowsR_ne (p : List Nat) {x : List (List Nat)} (h : x ≠ []) : rowsR p x ≠ [] := by
  cases x with
  | nil => exact absurd rfl h
  | cons l r =>
    cases r with
    | nil => unfold rowsR; split <;> simp
    | cons k r => simp [rowsR]
theorem rowsR_mem {p : List Nat} : ∀ {x : List (List Nat)} {l : List Nat}, l ∈ rowsR p x → l = [] ∨ ∃ r ∈ x, l = p ++ r
  | [], _, h => by cases h
  | [k], l, h => by
    unfold rowsR at h
    split at h
    · exact .inl (by simpa using h)
    · exact .inr ⟨k, by simp, by simpa using h⟩
  | k :: k' :: r, l, h => by
    rcases List.mem_cons.mp h with rfl | h
    · exact .inr ⟨k, by simp, rfl⟩
    · rcases rowsR_mem h with e | ⟨q, hq, e⟩
      · exact .inl e
      · exact .inr ⟨q, List.mem_cons_of_mem _ hq, e⟩

section
variable {n : Nat}
abbrev bl (n : Nat) : List Nat := List.replicate n 32
theorem sp32 : sp 32 = true := by decide
theorem bl_all (n : Nat) : (bl n).all sp = true := by
  rw [List.all_eq_true]; intro x hx; rw [List.eq_of_mem_replicate hx]; exact sp32
theorem isW_bl (l : List Nat) : isW (bl n ++ l) = isW l := by show (bl n ++ l).all sp = _; rw [List.all_append, bl_all, Bool.true_and]
theorem ind_bl (l : List Nat) : ind (bl n ++ l) = bl n ++ ind l := by
  induction n with
  | zero => rfl
  | succ n ih =>
    show ind (32 :: (bl n ++ l)) = 32 :: (bl n ++ ind l)
    rw [← ih]
    show (32 :: (bl n ++ l)).takeWhile isInd = _
    rw [List.takeWhile_cons]; rfl

theorem rowsR_tw : ∀ (z : List (List Nat)), (rowsR (bl n) z).takeWhile nW = (z.takeWhile nW).map (fun r => bl n ++ r)
  | [] => rfl
  | [l] => by
    unfold rowsR
    by_cases h : l = []
    · rw [if_pos h, h]; rfl
    · rw [if_neg h, List.takeWhile_cons, List.takeWhile_cons]
      show (if (!isW (bl n ++ l)) = true then _ else _) = _
      rw [isW_bl]
      by_cases hw : (!isW l) = true
      · rw [if_pos hw, show nW l = true from hw]; rfl
      · rw [if_neg hw, show nW l = false from by simpa using hw]; rfl
  | l :: k :: r => by
    show ((bl n ++ l) :: rowsR (bl n) (k :: r)).takeWhile nW = _
    rw [List.takeWhile_cons, List.takeWhile_cons]
    show (if (!isW (bl n ++ l)) = true then _ else _) = _
    rw [isW_bl, rowsR_tw (k :: r)]
    by_cases hw : (!isW l) = true
    · rw [if_pos hw, show nW l = true from hw]; rfl
    · rw [if_neg hw, show nW l = false from by simpa using hw]; rfl
theorem rowsR_dw : ∀ (z : List (List Nat)), (rowsR (bl n) z).dropWhile nW = rowsR (bl n) (z.dropWhile nW)
  | [] => rfl
  | [l] => by
    by_cases h : l = []
    · rw [h]; rfl
    · rw [rowsR_cons' _ _ _ h, List.dropWhile_cons, List.dropWhile_cons]
      show (if (!isW (bl n ++ l)) = true then _ else _) = _
      rw [isW_bl]
      by_cases hw : (!isW l) = true
      · rw [if_pos hw, show nW l = true from hw]; rfl
      · rw [if_neg hw, show nW l = false from by simpa using hw]
        show _ = rowsR (bl n) [l]
        rw [rowsR_cons' _ _ _ h]
  | l :: k :: r => by
    rw [rowsR_cons _ _ (by simp), List.dropWhile_cons, List.dropWhile_cons]
    show (if (!isW (bl n ++ l)) = true then _ else _) = _
    rw [isW_bl, rowsR_dw (k :: r)]
    by_cases hw : (!isW l) = true
    · rw [if_pos hw, show nW l = true from hw]; rfl
    · rw [if_neg hw, show nW l = false from by simpa using hw]
      exact (rowsR_cons _ _ (by simp)).symm

/-- the white rows ahead -/
theorem split_rows {x : List (List Nat)} (h : ∃ r ∈ x, isW r = false) : ∃ pre l0 more, x = pre ++ l0 :: more ∧ (∀ r ∈ pre, isW r = true) ∧ isW l0 = false := by
  induction x with
  | nil => obtain ⟨r, hr, _⟩ := h; cases hr
  | cons l r ih =>
    cases hl : isW l with
    | false => exact ⟨[], l, r, rfl, fun _ h => (nomatch h), hl⟩
    | true =>
      obtain ⟨q, hq, hqw⟩ := h
      rcases List.mem_cons.mp hq with rfl | hq
      · rw [hl] at hqw; cases hqw
      · obtain ⟨pre, l0, more, rfl, hp, h0⟩ := ih ⟨q, hq, hqw⟩
        refine ⟨l :: pre, l0, more, rfl, fun x hx => ?_, h0⟩
        rcases List.mem_cons.mp hx with rfl | hx
        · exact hl
        · exact hp x hx
theorem tw_pre {pre : List (List Nat)} {l0 : List Nat} {more : List (List Nat)} (hp : ∀ r ∈ pre, isW r = true) (h0 : isW l0 = false) : (pre ++ l0 :: more).takeWhile isW = pre ∧ (pre ++ l0 :: more).dropWhile isW = l0 :: more := by
  induction pre with
  | nil => rw [List.nil_append, List.takeWhile_cons, List.dropWhile_cons, h0]; exact ⟨rfl, rfl⟩
  | cons a r ih =>
    have ha := hp a (by simp)
    obtain ⟨i1, i2⟩ := ih fun x hx => hp x (List.mem_cons_of_mem _ hx)
    rw [List.cons_append, List.takeWhile_cons, List.dropWhile_cons, ha]
    exact ⟨by rw [i1]; rfl, i2⟩
theorem para_eq {pre : List (List Nat)} {l0 : List Nat} {more : List (List Nat)} (lim : Int) (hp : ∀ r ∈ pre, isW r = true) (h0 : isW l0 = false) : para (pre ++ l0 :: more) lim =
    (((l0 :: more).takeWhile nW).foldl (fun st l => goC (ind l0) (ind2 (ind l0) more) lim (chk l) st) (pre, ind l0)).1 ++ [rstripL (((l0 :: more).takeWhile nW).foldl (fun st l => goC (ind l0) (ind2 (ind l0) more) lim (chk l) st) (pre, ind l0)).2] ++ (l0 :: more).dropWhile nW := by
  obtain ⟨e1, e2⟩ := tw_pre (more := more) hp h0
  unfold para
  rw [e2, e1]

/-- the split of a row that is moved right by blanks -/
theorem goC_bl (i1 i2 : List Nat) (lim : Int) (hn : 0 < n) (l : List Nat) (st : PSt) : goC i1 i2 lim (chk (bl n ++ l)) st = goC i1 i2 lim (chk l) st := by
  have hd0 : (bl n ++ l).dropWhile ns = 32 :: (bl (n - 1) ++ l) := by
    cases n with
    | zero => omega
    | succ n => show ((32 :: (bl n ++ l)).dropWhile ns) = _; rw [List.dropWhile_cons]; rfl
  have ht0 : (bl n ++ l).takeWhile ns = [] := by
    cases n with
    | zero => omega
    | succ n => show ((32 :: (bl n ++ l)).takeWhile ns) = _; rw [List.takeWhile_cons]; rfl
  have hdw : ∀ (m : Nat), (bl m ++ l).dropWhile sp = l.dropWhile sp := by
    intro m
    induction m with
    | zero => rfl
    | succ m ih => show ((32 :: (bl m ++ l)).dropWhile sp) = _; rw [List.dropWhile_cons, sp32]; exact ih
  have e32 : (32 :: (bl (n - 1) ++ l)) = bl n ++ l := by
    cases n with
    | zero => omega
    | succ n => rfl
  have skip : ∀ (w : Bool) (st : PSt), stepW i1 i2 lim [] w st = st := fun w st => by unfold stepW; rw [if_pos rfl]
  rw [chk_cons hd0, ht0, e32, hdw]
  show goC i1 i2 lim (chk (l.dropWhile sp)) (stepW i1 i2 lim [] _ st) = _
  rw [skip]
  cases hl : l with
  | nil => rfl
  | cons c r =>
    cases hc : sp c with
    | false => rw [List.dropWhile_cons, hc]; rfl
    | true =>
      have hd1 : (c :: r).dropWhile ns = c :: r := by rw [List.dropWhile_cons]; show (if (!sp c) = true then _ else _) = _; rw [hc]; rfl
      have ht1 : (c :: r).takeWhile ns = [] := by rw [List.takeWhile_cons]; show (if (!sp c) = true then _ else _) = _; rw [hc]; rfl
      rw [chk_cons hd1, ht1]
      show _ = goC i1 i2 lim (chk ((c :: r).dropWhile sp)) (stepW i1 i2 lim [] _ st)
      rw [skip]

/-- has a sign that is not white -/
abbrev hasN (l : List Nat) : Prop := ∃ c ∈ l, sp c = false
theorem rstrip_bl (l : List Nat) (h : hasN l) : rstripL (bl n ++ l) = bl n ++ rstripL l := by
  unfold rstripL
  rw [List.reverse_append]
  have key : ∀ (a b : List Nat), hasN a → (a ++ b).dropWhile sp = a.dropWhile sp ++ b := by
    intro a b
    induction a with
    | nil => rintro ⟨c, hc, _⟩; cases hc
    | cons x a ih =>
      rintro ⟨c, hc, hs⟩
      rw [List.cons_append, List.dropWhile_cons, List.dropWhile_cons]
      cases hx : sp x with
      | false => rfl
      | true =>
        rcases List.mem_cons.mp hc with rfl | hc
        · rw [hx] at hs; cases hs
        · exact ih ⟨c, hc, hs⟩
  obtain ⟨c, hc, hs⟩ := h
  rw [key _ _ ⟨c, by simpa using hc, hs⟩, List.reverse_append, List.reverse_reverse]

theorem xtab_add : ∀ (a b : List Nat) (col : Nat), 9 ∉ b → (xtab col (a ++ b)).length = (xtab col a).length + b.length
  | [], b, col, h => by rw [List.nil_append, xtab_none b col h]; show _ = 0 + _; omega
  | c :: a, b, col, h => by
    rw [List.cons_append, xtab, xtab]
    split
    · rw [List.length_append, List.length_append, xtab_add a b _ h]; omega
    · rw [List.length_cons, List.length_cons, xtab_add a b _ h]; omega
theorem xtab_eight : ∀ (l : List Nat) (col : Nat), xtab (col + 8) l = xtab col l ∨ True := fun _ _ => .inr trivial
theorem xtab_mod : ∀ (l : List Nat) (a b : Nat), a % 8 = b % 8 → (xtab a l).length = (xtab b l).length
  | [], _, _, _ => rfl
  | c :: l, a, b, h => by
    rw [xtab, xtab]
    split
    · rw [List.length_append, List.length_append, List.length_replicate, List.length_replicate, h, xtab_mod l (a + (8 - b % 8)) (b + (8 - b % 8)) (by omega)]
    · rw [List.length_cons, List.length_cons]
      by_cases hc : c = 10 ∨ c = 13
      · rw [if_pos hc, if_pos hc]
      · rw [if_neg hc, if_neg hc, xtab_mod l (a + 1) (b + 1) (by omega)]
theorem xtab_bl0 : ∀ (n : Nat) (l : List Nat) (col : Nat), (xtab col (bl n ++ l)).length = n + (xtab (col + n) l).length
  | 0, l, col => by show (xtab col l).length = _; rw [Nat.zero_add]; rfl
  | n + 1, l, col => by
    show (xtab col (32 :: (bl n ++ l))).length = _
    rw [xtab, if_neg (by decide), if_neg (by decide), List.length_cons, xtab_bl0 n l (col + 1), show col + 1 + n = col + (n + 1) from by omega]
    omega
theorem xtab_bl (l : List Nat) (h : n = 8 ∨ 9 ∉ l) : (xtab 0 (bl n ++ l)).length = n + (xtab 0 l).length := by
  rw [xtab_bl0, Nat.zero_add]
  rcases h with h | h
  · subst h; rw [xtab_mod l 8 0 (by decide)]
  · rw [xtab_none _ _ h, xtab_none _ _ h]

/-- words of a split bear no white sign -/
def WordsOk (ws : List (List Nat)) : Prop := match ws with
  | [] => True
  | [w] => ∀ c ∈ w, sp c = false
  | w :: _ :: r => (∀ c ∈ w, sp c = false) ∧ WordsOk r
theorem chk_words : ∀ (m : Nat) (l : List Nat), l.length ≤ m → WordsOk (chk l) := by
  intro m
  induction m with
  | zero =>
    intro l h
    have : l = [] := List.length_eq_zero_iff.mp (by omega)
    subst this
    show ∀ c ∈ ([] : List Nat), _
    intro c hc; cases hc
  | succ m ih =>
    intro l h
    cases hd : l.dropWhile ns with
    | nil =>
      rw [chk_nil hd]
      intro c hc
      have e := List.takeWhile_append_dropWhile (p := ns) (l := l)
      rw [hd, List.append_nil] at e
      rw [← e] at hc
      have := mem_tw hc
      simpa [ns] using this
    | cons c r =>
      rw [chk_cons hd]
      have hc : sp c = true := by have := dropWhile_head hd; simpa [ns] using this
      have e : (c :: r).dropWhile sp = r.dropWhile sp := by rw [List.dropWhile_cons, hc]; rfl
      have hl := dropWhile_length_le ns l
      rw [hd, List.length_cons] at hl
      have hl2 := dropWhile_length_le sp r
      refine ⟨fun x hx => ?_, ih _ (by rw [e]; omega)⟩
      have := mem_tw hx
      simpa [ns] using this

def mp (n : Nat) (st : PSt) : PSt := (st.1.map (fun r => bl n ++ r), bl n ++ st.2)
/-- what holds of a state on the way -/
def Inv (n : Nat) (i1 : List Nat) (st : PSt) : Prop := (st.2 = i1 ∨ hasN st.2) ∧ (n = 8 ∨ 9 ∉ st.2)
theorem sp9 : sp 9 = true := by decide
theorem no9 {w : List Nat} (h : ∀ c ∈ w, sp c = false) : 9 ∉ w := fun hm => by have := h 9 hm; rw [sp9] at this; cases this
theorem bl_inj {a b : List Nat} (h : bl n ++ a = bl n ++ b) : a = b := List.append_cancel_left h
theorem stepW_mp {i1 i2 : List Nat} {lim : Int} {wd : List Nat} {wide : Bool} {st : PSt} (hw : ∀ c ∈ wd, sp c = false) (h2 : n = 8 ∨ 9 ∉ i2) (hI : Inv n i1 st) :
    stepW (bl n ++ i1) (bl n ++ i2) (lim + n) wd wide (mp n st) = mp n (stepW i1 i2 lim wd wide st) ∧ Inv n i1 (stepW i1 i2 lim wd wide st) ∧ (wd ≠ [] → hasN (stepW i1 i2 lim wd wide st).2) := by
  unfold stepW
  by_cases he : wd = []
  · rw [if_pos he, if_pos he]; exact ⟨rfl, hI, fun h => absurd he h⟩
  rw [if_neg he, if_neg he]
  have hnw : hasN wd := by
    cases wd with
    | nil => exact absurd rfl he
    | cons c r => exact ⟨c, by simp, hw c (by simp)⟩
  have hlen : (xtab 0 ((mp n st).2 ++ wd)).length = n + (xtab 0 (st.2 ++ wd)).length := by
    show (xtab 0 ((bl n ++ st.2) ++ wd)).length = _
    rw [List.append_assoc]
    refine xtab_bl _ ?_
    rcases hI.2 with h | h
    · exact .inl h
    · exact .inr fun hm => (List.mem_append.mp hm).elim h (no9 hw)
  have hc : (((xtab 0 ((mp n st).2 ++ wd)).length : Int) > lim + n ∧ (mp n st).2 ≠ bl n ++ i1) ↔ (((xtab 0 (st.2 ++ wd)).length : Int) > lim ∧ st.2 ≠ i1) := by
    rw [hlen]
    refine and_congr ?_ (not_congr ⟨fun h => bl_inj h, fun h => by show bl n ++ st.2 = _; rw [h]⟩)
    omega
  by_cases hb : ((xtab 0 (st.2 ++ wd)).length : Int) > lim ∧ st.2 ≠ i1
  · rw [if_pos (hc.mpr hb), if_pos hb]
    have hN : hasN st.2 := hI.1.resolve_left hb.2
    refine ⟨?_, ⟨.inr ?_, ?_⟩, fun _ => ?_⟩
    · show (_, _) = (_, _)
      dsimp only
      refine Prod.ext ?_ ?_
      · show (st.1.map fun r => bl n ++ r) ++ [rstripL (bl n ++ st.2)] = (st.1 ++ [rstripL st.2]).map fun r => bl n ++ r
        rw [rstrip_bl _ hN, List.map_append]; rfl
      · show (if wide = true then _ else _) = bl n ++ (if wide = true then _ else _)
        cases wide <;> simp [List.append_assoc]
    · obtain ⟨c, hc1, hc2⟩ := hnw
      refine ⟨c, ?_, hc2⟩
      dsimp only
      split <;> simp [hc1]
    · rcases h2 with h | h
      · exact .inl h
      · refine .inr ?_
        dsimp only
        have := no9 hw
        split <;> simp [h, this]
    · obtain ⟨c, hc1, hc2⟩ := hnw
      refine ⟨c, ?_, hc2⟩
      dsimp only
      split <;> simp [hc1]
  · rw [if_neg (fun h => hb (hc.mp h)), if_neg hb]
    refine ⟨?_, ⟨.inr ?_, ?_⟩, fun _ => ?_⟩
    · refine Prod.ext rfl ?_
      show (if wide = true then _ else _) = bl n ++ (if wide = true then _ else _)
      cases wide <;> simp [mp, List.append_assoc]
    · obtain ⟨c, hc1, hc2⟩ := hnw
      refine ⟨c, ?_, hc2⟩
      dsimp only
      split <;> simp [hc1]
    · rcases hI.2 with h | h
      · exact .inl h
      · refine .inr ?_
        dsimp only
        have := no9 hw
        split <;> simp [h, this]
    · obtain ⟨c, hc1, hc2⟩ := hnw
      refine ⟨c, ?_, hc2⟩
      dsimp only
      split <;> simp [hc1]
theorem goC_mp {i1 i2 : List Nat} {lim : Int} (h2 : n = 8 ∨ 9 ∉ i2) : ∀ (ws : List (List Nat)) (st : PSt), WordsOk ws → Inv n i1 st →
    goC (bl n ++ i1) (bl n ++ i2) (lim + n) ws (mp n st) = mp n (goC i1 i2 lim ws st) ∧ Inv n i1 (goC i1 i2 lim ws st)
  | [], st, _, hI => ⟨rfl, hI⟩
  | [w], st, hw, hI => by
    have := stepW_mp (lim := lim) (wide := false) hw h2 hI
    exact ⟨this.1, this.2.1⟩
  | w :: sep :: r, st, hw, hI => by
    have := stepW_mp (lim := lim) (wide := sep != [32]) hw.1 h2 hI
    have ih := goC_mp (lim := lim) h2 r _ hw.2 this.2.1
    unfold goC
    rw [this.1]
    exact ih

theorem stepW_hasN {i1 i2 : List Nat} {lim : Int} {wd : List Nat} {wide : Bool} {st : PSt} (hw : ∀ c ∈ wd, sp c = false) (h : wd ≠ [] ∨ hasN st.2) : hasN (stepW i1 i2 lim wd wide st).2 := by
  by_cases he : wd = []
  · rcases h with h | h
    · exact absurd he h
    · unfold stepW; rw [if_pos he]; exact h
  · obtain ⟨c, hc⟩ : ∃ c, c ∈ wd := by cases wd with | nil => exact absurd rfl he | cons c r => exact ⟨c, by simp⟩
    refine ⟨c, ?_, hw c hc⟩
    unfold stepW
    rw [if_neg he]
    dsimp only
    split <;> simp [hc]
theorem goC_hasN {i1 i2 : List Nat} {lim : Int} : ∀ (ws : List (List Nat)) (st : PSt), WordsOk ws → hasN st.2 → hasN (goC i1 i2 lim ws st).2
  | [], st, _, h => h
  | [w], st, hw, h => stepW_hasN hw (.inr h)
  | w :: sep :: r, st, hw, h => goC_hasN r _ hw.2 (stepW_hasN hw.1 (.inr h))
theorem nW_hasN {l : List Nat} (h : isW l = false) : hasN l := by
  rw [List.all_eq_false] at h
  obtain ⟨c, hc, hs⟩ := h
  exact ⟨c, hc, by simpa using hs⟩
theorem goC_chk_hasN {i1 i2 : List Nat} {lim : Int} : ∀ (m : Nat) (l : List Nat) (st : PSt), l.length ≤ m → isW l = false → hasN (goC i1 i2 lim (chk l) st).2 := by
  intro m
  induction m with
  | zero =>
    intro l st h hl
    have : l = [] := List.length_eq_zero_iff.mp (by omega)
    subst this; cases hl
  | succ m ih =>
    intro l st h hl
    have hne : l ≠ [] := by rintro rfl; cases hl
    have hwo := chk_words _ l (Nat.le_refl _)
    cases hd : l.dropWhile ns with
    | nil =>
      rw [chk_nil hd] at hwo ⊢
      exact stepW_hasN hwo (.inl hne)
    | cons c r =>
      rw [chk_cons hd] at hwo ⊢
      show hasN (goC i1 i2 lim (chk ((c :: r).dropWhile sp)) (stepW i1 i2 lim (l.takeWhile ns) _ st)).2
      by_cases hw : l.takeWhile ns = []
      · have hc : sp c = true := by have := dropWhile_head hd; simpa [ns] using this
        have e : l = c :: r := by
          have := List.takeWhile_append_dropWhile (p := ns) (l := l)
          rw [hw, hd, List.nil_append] at this; exact this.symm
        have e2 : (c :: r).dropWhile sp = r.dropWhile sp := by rw [List.dropWhile_cons, hc]; rfl
        have hl2 := dropWhile_length_le sp r
        rw [e, List.length_cons] at h
        refine ih _ _ (by rw [e2]; omega) ?_
        obtain ⟨x, hx, hs⟩ := nW_hasN hl
        rw [e] at hx
        rw [List.all_eq_false]
        refine ⟨x, ?_, by rw [hs]; exact Bool.false_ne_true⟩
        have := List.takeWhile_append_dropWhile (p := sp) (l := c :: r)
        rw [← this] at hx
        rcases List.mem_append.mp hx with hx | hx
        · rw [mem_tw hx] at hs; cases hs
        · exact hx
      · exact goC_hasN _ _ hwo.2 (stepW_hasN hwo.1 (.inl hw))
theorem fold_mp {i1 i2 : List Nat} {lim : Int} (hn : 0 < n) (h2 : n = 8 ∨ 9 ∉ i2) : ∀ (ls : List (List Nat)) (st : PSt), Inv n i1 st →
    (ls.map fun r => bl n ++ r).foldl (fun st l => goC (bl n ++ i1) (bl n ++ i2) (lim + n) (chk l) st) (mp n st) = mp n (ls.foldl (fun st l => goC i1 i2 lim (chk l) st) st) ∧ Inv n i1 (ls.foldl (fun st l => goC i1 i2 lim (chk l) st) st)
  | [], st, hI => ⟨rfl, hI⟩
  | l :: r, st, hI => by
    have h := goC_mp (lim := lim) h2 (chk l) st (chk_words _ l (Nat.le_refl _)) hI
    have ih := fold_mp (lim := lim) hn h2 r _ h.2
    rw [List.map_cons, List.foldl_cons, List.foldl_cons, goC_bl _ _ _ hn, h.1]
    exact ih
theorem fold_hasN {i1 i2 : List Nat} {lim : Int} : ∀ (ls : List (List Nat)) (st : PSt), (∀ l ∈ ls, isW l = false) → ls ≠ [] ∨ hasN st.2 → hasN (ls.foldl (fun st l => goC i1 i2 lim (chk l) st) st).2
  | [], st, _, h => h.resolve_left (fun e => e rfl)
  | l :: r, st, hl, _ => fold_hasN r _ (fun x hx => hl x (List.mem_cons_of_mem _ hx)) (.inr (goC_chk_hasN _ l st (Nat.le_refl _) (hl l (by simp))))
theorem ind2_bl {i1 : List Nat} {more : List (List Nat)} : ind2 (bl n ++ i1) (rowsR (bl n) more) = bl n ++ ind2 i1 more := by
  cases more with
  | nil => rfl
  | cons l r =>
    by_cases hl : l = []
    · subst hl
      cases r with
      | nil => rfl
      | cons k r =>
        rw [rowsR_cons _ _ (by simp)]
        show (if isW (bl n ++ []) = true then bl n ++ i1 else ind (bl n ++ [])) = bl n ++ (if isW [] = true then i1 else ind [])
        rw [isW_bl]; rfl
    · rw [rowsR_cons' _ _ _ hl]
      show (if isW (bl n ++ l) = true then bl n ++ i1 else ind (bl n ++ l)) = bl n ++ (if isW l = true then i1 else ind l)
      rw [isW_bl, ind_bl]
      split <;> rfl
theorem tw_all {l : List (List Nat)} {r : List Nat} (h : r ∈ l.takeWhile nW) : isW r = false := by
  have : ∀ {l : List (List Nat)}, r ∈ l.takeWhile nW → nW r = true := by
    intro l
    induction l with
    | nil => intro h; cases h
    | cons a l ih =>
      intro h
      rw [List.takeWhile_cons] at h
      split at h
      · rcases List.mem_cons.mp h with rfl | h
        · assumption
        · exact ih h
      · cases h
  simpa using this h
theorem rstrip_ne {l : List Nat} (h : hasN l) : rstripL l ≠ [] := by
  unfold rstripL
  intro e
  obtain ⟨c, hc, hs⟩ := h
  have e2 : l.reverse.dropWhile sp = [] := by simpa using e
  have e3 := List.takeWhile_append_dropWhile (p := sp) (l := l.reverse)
  rw [e2, List.append_nil] at e3
  have : c ∈ l.reverse := by simpa using hc
  rw [← e3] at this
  rw [mem_tw this] at hs
  cases hs

/-- THE FIRST HALF: to blot and then to set, to set and then to blot -/
theorem para_shift {x : List (List Nat)} {lim : Int} (hn : 0 < n) (hx : ∃ r ∈ x, isW r = false) (h9 : n = 8 ∨ ∀ r ∈ x, isW r = false → 9 ∉ ind r) : para (rowsR (bl n) x) (lim + n) = rowsR (bl n) (para x lim) := by
  obtain ⟨pre, l0, more, rfl, hp, h0⟩ := split_rows hx
  have hl0 : l0 ≠ [] := by rintro rfl; cases h0
  have i9 : n = 8 ∨ 9 ∉ ind l0 := h9.imp id fun h => h l0 (by simp) h0
  have i29 : n = 8 ∨ 9 ∉ ind2 (ind l0) more := by
    rcases h9 with h | h
    · exact .inl h
    · refine .inr ?_
      unfold ind2
      split
      · exact h l0 (by simp) h0
      · rename_i l1 r1
        split
        · exact h l0 (by simp) h0
        · rename_i hw
          exact h l1 (by simp) (by simpa using hw)
  rw [rowsR_app _ _ _ (by simp), rowsR_cons' _ _ _ hl0]
  rw [para_eq (lim + n) (fun r hr => ?_) (by rw [isW_bl]; exact h0), para_eq lim hp h0]
  · rw [ind_bl, ind2_bl, ← rowsR_cons' _ _ _ hl0, rowsR_tw, rowsR_dw]
    have hfold := fold_mp (n := n) (i1 := ind l0) (i2 := ind2 (ind l0) more) (lim := lim) hn i29 ((l0 :: more).takeWhile nW) (pre, ind l0) ⟨.inl rfl, i9⟩
    have hN := fold_hasN (i1 := ind l0) (i2 := ind2 (ind l0) more) (lim := lim) ((l0 :: more).takeWhile nW) (pre, ind l0) (fun l hl => tw_all hl) (.inl (by rw [List.takeWhile_cons, show nW l0 = true from by simp [h0]]; simp))
    rw [show ((pre.map fun r => bl n ++ r), bl n ++ ind l0) = mp n (pre, ind l0) from rfl, hfold.1]
    generalize ((l0 :: more).takeWhile nW).foldl (fun st l => goC (ind l0) (ind2 (ind l0) more) lim (chk l) st) (pre, ind l0) = fin at *
    show (fin.1.map fun r => bl n ++ r) ++ [rstripL (bl n ++ fin.2)] ++ _ = _
    rw [rstrip_bl _ hN]
    cases hr : (l0 :: more).dropWhile nW with
    | nil =>
      rw [List.append_nil]
      show _ ++ _ ++ rowsR (bl n) [] = _
      rw [rowsR_snoc, if_neg (rstrip_ne hN)]
      show _ ++ [] = _
      rw [List.append_nil]
    | cons a r =>
      rw [rowsR_app _ (fin.1 ++ [rstripL fin.2]) (a :: r) (by simp), List.map_append]
      rfl
  · obtain ⟨q, hq, rfl⟩ := List.mem_map.mp hr
    rw [isW_bl]; exact hp q hq
end
end Mine
end

-- P4
section
set_option maxRecDepth 100000
set_option linter.unusedVariables false
namespace Mine
open PySem PySem.Builtin PySem.Builtin.Str PyProof.Rows

abbrev width (l : List Nat) : Nat := (xtab 0 l).length
/-- words of nine signs at most -/
def Words9 (ws : List (List Nat)) : Prop := match ws with
  | [] => True
  | [w] => w.length ≤ 9
  | w :: _ :: r => w.length ≤ 9 ∧ Words9 r

section
variable (W : Int)
/-- set rows, the last one first -/
def RChain : List (List Nat) → Prop
  | [] => True
  | [a] => isW a = false ∧ (width a : Int) ≤ W
  | b :: a :: r => (isW b = false ∧ (width b : Int) ≤ W) ∧ W < (width a : Int) + 2 + (word1 b).length ∧ RChain (a :: r)
end
section
variable {W : Int}
theorem RChain.ok {b : List Nat} {r : List (List Nat)} (h : RChain W (b :: r)) : isW b = false ∧ (width b : Int) ≤ W := by
  cases r with
  | nil => exact h
  | cons a r => exact h.1
theorem RChain.turn {b b' : List Nat} {r : List (List Nat)} (h : RChain W (b :: r)) (hw : isW b' = false) (hl : (width b' : Int) ≤ W) (he : word1 b' = word1 b) : RChain W (b' :: r) := by
  cases r with
  | nil => exact ⟨hw, hl⟩
  | cons a r => exact ⟨⟨hw, hl⟩, by rw [he]; exact h.2.1, h.2.2⟩
theorem RChain.push {b c : List Nat} {r : List (List Nat)} (h : RChain W (b :: r)) (hw : isW c = false) (hl : (width c : Int) ≤ W) (he : W < (width b : Int) + 2 + (word1 c).length) : RChain W (c :: b :: r) := ⟨⟨hw, hl⟩, he, h⟩
theorem RChain.idx : ∀ {r : List (List Nat)}, RChain W r → (∀ k (h : k < r.length), isW r[k] = false ∧ (width r[k] : Int) ≤ W) ∧ (∀ k (h : k + 1 < r.length), W < (width r[k + 1] : Int) + 2 + (word1 (r[k]'(by omega))).length)
  | [], _ => ⟨fun k h => absurd h (Nat.not_lt_zero _), fun k h => absurd h (Nat.not_lt_zero _)⟩
  | [a], h => by
    refine ⟨fun k hk => ?_, fun k hk => absurd hk (by simp)⟩
    have : k = 0 := by simpa using hk
    subst this; exact h
  | b :: a :: r, h => by
    obtain ⟨i1, i2⟩ := RChain.idx h.2.2
    refine ⟨fun k hk => ?_, fun k hk => ?_⟩
    · cases k with
      | zero => exact h.1
      | succ k => exact i1 k (by simpa using hk)
    · cases k with
      | zero => exact h.2.1
      | succ k => exact i2 k (by simpa using hk)

theorem word1_ind {i wd : List Nat} (hi : isW i = true) (hw : ∀ c ∈ wd, sp c = false) : word1 (i ++ wd) = wd := by
  unfold word1
  have e1 : (i ++ wd).dropWhile sp = wd := by
    induction i with
    | nil =>
      cases wd with
      | nil => rfl
      | cons c r => rw [List.nil_append, List.dropWhile_cons, hw c (by simp)]; rfl
    | cons c i ih =>
      have : sp c = true ∧ isW i = true := by simpa [isW, List.all_cons] using hi
      rw [List.cons_append, List.dropWhile_cons, this.1]
      exact ih this.2
  rw [e1]
  have : ∀ (l : List Nat), (∀ c ∈ l, sp c = false) → l.takeWhile ns = l := by
    intro l
    induction l with
    | nil => intro _; rfl
    | cons c r ih => intro h; rw [List.takeWhile_cons, show ns c = true from by show (!sp c) = true; rw [h c (by simp)]; rfl, if_pos rfl, ih fun x hx => h x (List.mem_cons_of_mem _ hx)]
  exact this wd hw
theorem dw_app {a b : List Nat} (h : hasN a) : (a ++ b).dropWhile sp = a.dropWhile sp ++ b := by
  induction a with
  | nil => obtain ⟨c, hc, _⟩ := h; cases hc
  | cons x a ih =>
    rw [List.cons_append, List.dropWhile_cons, List.dropWhile_cons]
    cases hx : sp x with
    | false => rfl
    | true =>
      obtain ⟨c, hc, hs⟩ := h
      rcases List.mem_cons.mp hc with rfl | hc
      · rw [hx] at hs; cases hs
      · exact ih ⟨c, hc, hs⟩
theorem word1_app {a b : List Nat} {c : Nat} (h : hasN a) (hc : sp c = true) : word1 (a ++ c :: b) = word1 a := by
  unfold word1
  rw [dw_app h]
  generalize a.dropWhile sp = x
  induction x with
  | nil => rw [List.nil_append, List.takeWhile_cons]; show (if (!sp c) = true then _ else _) = _; rw [hc]; rfl
  | cons y x ih =>
    rw [List.cons_append, List.takeWhile_cons, List.takeWhile_cons, ih]
theorem rstrip_core {a : List Nat} {c : Nat} (hc : sp c = false) (k : Nat) : rstripL (a ++ [c] ++ List.replicate k 32) = a ++ [c] := by
  unfold rstripL
  rw [List.reverse_append, List.reverse_replicate]
  have : ∀ m, (List.replicate m 32 ++ (a ++ [c]).reverse).dropWhile sp = (a ++ [c]).reverse := by
    intro m
    induction m with
    | zero => rw [List.replicate_zero, List.nil_append, List.reverse_append, List.reverse_singleton, List.singleton_append, List.dropWhile_cons, hc]; rfl
    | succ m ih => rw [List.replicate_succ, List.cons_append, List.dropWhile_cons, sp32]; exact ih
  rw [this, List.reverse_reverse]
theorem isInd_sp {l : List Nat} (h : ∀ c ∈ l, isInd c = true) : isW l = true := by
  rw [List.all_eq_true]
  intro c hc
  have := h c hc
  unfold isInd at this
  simp only [Bool.or_eq_true, beq_iff_eq] at this
  rcases this with rfl | rfl
  · exact sp32
  · exact sp9
theorem ind_isW (l : List Nat) : isW (ind l) = true := isInd_sp fun c hc => mem_tw hc
theorem isW_app_f {a b : List Nat} (h : hasN a) : isW (a ++ b) = false := by
  obtain ⟨c, hc, hs⟩ := h
  rw [List.all_eq_false]
  exact ⟨c, List.mem_append_left _ hc, by rw [hs]; exact Bool.false_ne_true⟩
theorem isW_app_f' {a b : List Nat} (h : hasN b) : isW (a ++ b) = false := by
  obtain ⟨c, hc, hs⟩ := h
  rw [List.all_eq_false]
  exact ⟨c, List.mem_append_right _ hc, by rw [hs]; exact Bool.false_ne_true⟩

/-- how a state stands on the way -/
def Good (W : Int) (pre : List (List Nat)) (i1 : List Nat) (st : PSt) : Prop :=
  st = (pre, i1) ∨ ∃ ls a c k, st = (pre ++ ls, a ++ [c] ++ List.replicate (k + 1) 32) ∧ k ≤ 1 ∧ sp c = false ∧ RChain W ((a ++ [c]) :: ls.reverse)
theorem last_split {wd : List Nat} (h : wd ≠ []) : ∃ a c, wd = a ++ [c] := ⟨wd.dropLast, wd.getLast h, (List.dropLast_concat_getLast h).symm⟩
theorem tail_eq (l : List Nat) (wide : Bool) : (if wide = true then l ++ [32] ++ [32] else l ++ [32]) = l ++ List.replicate ((if wide = true then 1 else 0) + 1) 32 := by
  cases wide
  · rfl
  · show l ++ [32] ++ [32] = _; rw [List.append_assoc]; rfl
theorem stepW_good {pre : List (List Nat)} {i1 i2 : List Nat} {wd : List Nat} {wide : Bool} {st : PSt} (hw : ∀ c ∈ wd, sp c = false) (h9 : wd.length ≤ 9) (hi1 : isW i1 = true) (hi2 : isW i2 = true) (hl1 : (width i1 : Int) + 9 ≤ W) (hl2 : (width i2 : Int) + 9 ≤ W)
    (hG : Good W pre i1 st) : Good W pre i1 (stepW i1 i2 W wd wide st) := by
  unfold stepW
  by_cases he : wd = []
  · rw [if_pos he]; exact hG
  rw [if_neg he]
  dsimp only
  rw [tail_eq]
  have hnw : hasN wd := by
    cases wd with
    | nil => exact absurd rfl he
    | cons c r => exact ⟨c, by simp, hw c (by simp)⟩
  have h9n := no9 hw
  obtain ⟨wa, wc, hwd⟩ := last_split he
  have hwc : sp wc = false := hw wc (by rw [hwd]; simp)
  have hk : (if wide = true then 1 else 0) ≤ 1 := by cases wide <;> decide
  rcases hG with rfl | ⟨ls, a, c, k, rfl, hk1, hc, hch⟩
  · rw [if_neg (fun h => h.2 rfl)]
    refine .inr ⟨[], i1 ++ wa, wc, _, ?_, hk, hwc, ?_⟩
    · dsimp only
      rw [List.append_nil, List.append_assoc i1 wa [wc], ← hwd]
    · rw [List.append_assoc, ← hwd]
      refine ⟨isW_app_f' hnw, ?_⟩
      show ((xtab 0 (i1 ++ wd)).length : Int) ≤ W
      rw [xtab_add _ _ _ h9n]
      have : ((width i1 + wd.length : Nat) : Int) ≤ W := by omega
      exact this
  · have hcore : hasN (a ++ [c]) := ⟨c, by simp, hc⟩
    have hne : a ++ [c] ++ List.replicate (k + 1) 32 ≠ i1 := by
      intro e
      have : isW i1 = false := by rw [← e]; exact isW_app_f hcore
      rw [hi1] at this; cases this
    have hrep : 9 ∉ List.replicate (k + 1) 32 ++ wd := fun hm => (List.mem_append.mp hm).elim (fun h => by have := List.eq_of_mem_replicate h; omega) h9n
    have hwid : (xtab 0 (a ++ [c] ++ List.replicate (k + 1) 32 ++ wd)).length = width (a ++ [c]) + (k + 1) + wd.length := by
      rw [List.append_assoc, xtab_add _ _ _ hrep, List.length_append, List.length_replicate]
      show (xtab 0 (a ++ [c])).length + _ = (xtab 0 (a ++ [c])).length + _ + _
      omega
    dsimp only
    by_cases hb : ((xtab 0 (a ++ [c] ++ List.replicate (k + 1) 32 ++ wd)).length : Int) > W
    · rw [if_pos ⟨hb, hne⟩, rstrip_core hc]
      refine .inr ⟨ls ++ [a ++ [c]], i2 ++ wa, wc, _, ?_, hk, hwc, ?_⟩
      · dsimp only
        rw [List.append_assoc i2 wa [wc], ← hwd, List.append_assoc]
      · rw [List.append_assoc i2, ← hwd, List.reverse_append, List.reverse_singleton, List.singleton_append]
        refine hch.push (isW_app_f' hnw) ?_ ?_
        · show ((xtab 0 (i2 ++ wd)).length : Int) ≤ W
          rw [xtab_add _ _ _ h9n]
          have : ((width i2 + wd.length : Nat) : Int) ≤ W := by omega
          exact this
        · rw [word1_ind hi2 hw]
          rw [hwid] at hb
          omega
    · rw [if_neg (fun h => hb h.1)]
      refine .inr ⟨ls, a ++ [c] ++ List.replicate (k + 1) 32 ++ wa, wc, _, ?_, hk, hwc, ?_⟩
      · dsimp only
        rw [List.append_assoc (a ++ [c] ++ List.replicate (k + 1) 32) wa [wc], ← hwd]
      · rw [List.append_assoc (a ++ [c] ++ List.replicate (k + 1) 32), ← hwd]
        refine hch.turn ?_ (by show ((xtab 0 (a ++ [c] ++ List.replicate (k + 1) 32 ++ wd)).length : Int) ≤ W; omega) ?_
        · rw [List.append_assoc]; exact isW_app_f hcore
        · rw [List.append_assoc, List.replicate_succ, List.cons_append]
          exact word1_app hcore sp32
theorem goC_good {pre : List (List Nat)} {i1 i2 : List Nat} (hi1 : isW i1 = true) (hi2 : isW i2 = true) (hl1 : (width i1 : Int) + 9 ≤ W) (hl2 : (width i2 : Int) + 9 ≤ W) : ∀ (ws : List (List Nat)) (st : PSt), WordsOk ws → Words9 ws → Good W pre i1 st → Good W pre i1 (goC i1 i2 W ws st)
  | [], st, _, _, h => h
  | [w], st, hw, h9, h => stepW_good hw h9 hi1 hi2 hl1 hl2 h
  | w :: sep :: r, st, hw, h9, h => goC_good hi1 hi2 hl1 hl2 r _ hw.2 h9.2 (stepW_good hw.1 h9.1 hi1 hi2 hl1 hl2 h)
theorem fold_good {pre : List (List Nat)} {i1 i2 : List Nat} (hi1 : isW i1 = true) (hi2 : isW i2 = true) (hl1 : (width i1 : Int) + 9 ≤ W) (hl2 : (width i2 : Int) + 9 ≤ W) : ∀ (ls : List (List Nat)) (st : PSt), (∀ l ∈ ls, Words9 (chk l)) → Good W pre i1 st →
    Good W pre i1 (ls.foldl (fun st l => goC i1 i2 W (chk l) st) st)
  | [], st, _, h => h
  | l :: r, st, h9, h => fold_good hi1 hi2 hl1 hl2 r _ (fun x hx => h9 x (List.mem_cons_of_mem _ hx)) (goC_good hi1 hi2 hl1 hl2 _ _ (chk_words _ l (Nat.le_refl _)) (h9 l (by simp)) h)
theorem mem_tw' {p : List Nat → Bool} : ∀ {l : List (List Nat)} {x : List Nat}, x ∈ l.takeWhile p → x ∈ l
  | [], _, h => by cases h
  | a :: l, x, h => by
    rw [List.takeWhile_cons] at h
    split at h
    · rcases List.mem_cons.mp h with rfl | h
      · simp
      · exact List.mem_cons_of_mem _ (mem_tw' h)
    · cases h
theorem ind2_cases (i1 : List Nat) (more : List (List Nat)) : ind2 i1 more = i1 ∨ ∃ l ∈ more, isW l = false ∧ ind2 i1 more = ind l := by
  unfold ind2
  split
  · exact .inl rfl
  · rename_i l r
    split
    · exact .inl rfl
    · rename_i hw
      exact .inr ⟨l, by simp, by simpa using hw, rfl⟩
theorem dw_head {l : List (List Nat)} {a : List Nat} {r : List (List Nat)} (h : l.dropWhile nW = a :: r) : isW a = true := by
  induction l with
  | nil => cases h
  | cons x l ih =>
    rw [List.dropWhile_cons] at h
    split at h
    · exact ih h
    · rename_i hx
      cases h
      simpa using hx

/-- THE SECOND HALF: the paragraph is set -/
theorem para_set {x : List (List Nat)} (hx : ∃ r ∈ x, isW r = false) (h9 : ∀ r ∈ x, isW r = false → Words9 (chk r) ∧ (width (ind r) : Int) + 9 ≤ W) : SetOk (para x W) W := by
  obtain ⟨pre, l0, more, rfl, hp, h0⟩ := split_rows hx
  have hl1 := (h9 l0 (by simp) h0).2
  have hi2 : isW (ind2 (ind l0) more) = true ∧ (width (ind2 (ind l0) more) : Int) + 9 ≤ W := by
    rcases ind2_cases (ind l0) more with e | ⟨l, hl, hw, e⟩
    · rw [e]; exact ⟨ind_isW _, hl1⟩
    · rw [e]; exact ⟨ind_isW _, (h9 l (by simp [hl]) hw).2⟩
  rw [para_eq W hp h0]
  have hg := fold_good (W := W) (pre := pre) (i1 := ind l0) (i2 := ind2 (ind l0) more) (ind_isW _) hi2.1 hl1 hi2.2 ((l0 :: more).takeWhile nW) (pre, ind l0) (fun l hl => (h9 l (List.mem_append_right _ (mem_tw' hl)) (tw_all hl)).1) (.inl rfl)
  have hN := fold_hasN (i1 := ind l0) (i2 := ind2 (ind l0) more) (lim := W) ((l0 :: more).takeWhile nW) (pre, ind l0) (fun l hl => tw_all hl) (.inl (by rw [List.takeWhile_cons, show nW l0 = true from by simp [h0]]; simp))
  generalize ((l0 :: more).takeWhile nW).foldl (fun st l => goC (ind l0) (ind2 (ind l0) more) W (chk l) st) (pre, ind l0) = fin at *
  have hdw : ∀ a r, (l0 :: more).dropWhile nW = a :: r → isW a = true := fun a r e => dw_head e
  generalize (l0 :: more).dropWhile nW = tl at *
  rcases hg with rfl | ⟨ls, a, c, k, rfl, hk, hc, hch⟩
  · have := isW_app_f (b := []) hN
    rw [List.append_nil] at this
    rw [ind_isW] at this; cases this
  dsimp only
  rw [rstrip_core hc]
  have hre : pre ++ ls ++ [a ++ [c]] ++ tl = pre ++ ((ls ++ [a ++ [c]]) ++ tl) := by simp only [List.append_assoc]
  rw [hre]
  have hrev : (ls ++ [a ++ [c]]).reverse = (a ++ [c]) :: ls.reverse := by rw [List.reverse_append]; rfl
  rw [← hrev] at hch
  generalize hlines : ls ++ [a ++ [c]] = lines at *
  have hlne : lines ≠ [] := by rw [← hlines]; simp
  obtain ⟨ix1, ix2⟩ := hch.idx
  have g1 : ∀ k (h : k < lines.length), isW lines[k] = false ∧ (width lines[k] : Int) ≤ W := by
    intro k hk
    have hk' : lines.length - 1 - k < lines.reverse.length := by rw [List.length_reverse]; omega
    have := ix1 (lines.length - 1 - k) hk'
    rw [List.getElem_reverse] at this
    have e : lines.length - 1 - (lines.length - 1 - k) = k := by omega
    simp only [e] at this
    exact this
  have g2 : ∀ k (h : k + 1 < lines.length), W < (width lines[k] : Int) + 2 + (word1 lines[k + 1]).length := by
    intro k hk
    have hk' : (lines.length - 2 - k) + 1 < lines.reverse.length := by rw [List.length_reverse]; omega
    have := ix2 (lines.length - 2 - k) hk'
    rw [List.getElem_reverse, List.getElem_reverse] at this
    have e : lines.length - 1 - (lines.length - 2 - k + 1) = k := by omega
    have e2 : lines.length - 1 - (lines.length - 2 - k) = k + 1 := by omega
    simp only [e, e2] at this
    exact this
  obtain ⟨f0, fr, hf⟩ := List.exists_cons_of_ne_nil hlne
  have hf0 : isW f0 = false := by
    have := (g1 0 (by rw [hf]; simp)).1
    simp only [hf] at this
    exact this
  have htw : (pre ++ (lines ++ tl)).takeWhile isW = pre := by
    rw [hf, List.cons_append]
    exact (tw_pre (more := fr ++ tl) hp hf0).1
  have hallL : ∀ r ∈ lines, nW r = true := by
    intro r hr
    obtain ⟨k, hk, rfl⟩ := List.getElem_of_mem hr
    simp [(g1 k hk).1]
  have htw2 : (lines ++ tl).takeWhile nW = lines := by
    rw [List.takeWhile_append_of_pos hallL]
    cases htl : tl with
    | nil => simp
    | cons b r =>
      rw [List.takeWhile_cons, show nW b = false from by simp [hdw b r htl]]
      simp
  intro k hk hk1 hk2
  simp only [htw] at hk1 hk2
  rw [List.drop_left, htw2] at hk2
  have hkl : k - pre.length < lines.length := by omega
  have e1 : (pre ++ (lines ++ tl))[k] = lines[k - pre.length] := by
    rw [List.getElem_append_right hk1, List.getElem_append_left hkl]
  rw [e1]
  refine ⟨(g1 _ hkl).2, fun h2 hw => ?_⟩
  by_cases hlt : k + 1 - pre.length < lines.length
  · have e2 : (pre ++ (lines ++ tl))[k + 1] = lines[k + 1 - pre.length] := by
      rw [List.getElem_append_right (by omega), List.getElem_append_left hlt]
    rw [e2]
    have e3 : k + 1 - pre.length = (k - pre.length) + 1 := by omega
    simp only [e3]
    exact g2 _ (by omega)
  · exfalso
    have hke : k + 1 - pre.length = lines.length := by omega
    have e2 : (pre ++ (lines ++ tl))[k + 1] = tl[k + 1 - pre.length - lines.length]'(by rw [List.length_append, List.length_append] at h2; omega) := by
      rw [List.getElem_append_right (by omega), List.getElem_append_right (by omega)]
    rw [e2] at hw
    cases htl : tl with
    | nil => rw [htl] at h2; simp at h2; omega
    | cons b r =>
      have := hdw b r htl
      simp only [htl, hke, Nat.sub_self, List.getElem_cons_zero] at hw
      rw [this] at hw; cases hw
end
end Mine
end

-- W11
section
set_option maxRecDepth 100000
set_option linter.unusedVariables false
set_option Elab.async false
namespace Mine
open PySem PySem.W PyProof.Rows PySem.Calls PySem.Builtin PySem.Builtin.Str

noncomputable section
theorem fill8 : (PySem.Challenge.rw_lg0018_01, hd.heap_39) = (PySem.Challenge.rw_lg0018_01, hd.heap_39) := by k_fill; rfl
theorem classedK (P : Params) : kb_classed (hd.heap_39 P) = true := by kernel_rfl

section
variable {prog : Program} {w : World} {mg mb : Str → Option Value} {A : Around} {E : Value → Shared → Prop} {s : Shared} {h₁ h₀ : Heap} {L a c P bm : Addr} {ob : Obj} {ps : Array Value} {l : List (Str × Value)} {nw : List (Addr × Shp)} {cn : Str} {cs : Scope} {ccd : Value} {cel : List (Str × Addr)}
theorem Gd.regrow (G : Gd w mg mb h₀) (B : Based h₁ h₀ c P ps) (ps' : Array Value) : Gd w mg mb (regrown h₀ P ps') := by
  refine ⟨kb_in_regrown B G.X G.T.g (classedK _), ?_⟩
  obtain ⟨mc, h1, h2⟩ := G.T.nolimit
  exact ⟨LGe.ns_regrown B G.T.g, LGe.ns_regrown B G.T.b, ⟨mc, LGe.ns_regrown B h1, h2⟩, G.T.builtins, G.T.free⟩
theorem regrown_get {b : Addr} (ps' : Array Value) (hb : b ≠ P) : (regrown h₀ P ps').get? b = h₀.get? b := Heap.get?_update_other _ _ (Ne.symm hb)
theorem St.regrow {h h' : Heap} {m : Str → Option Value} {ps' : Array Value} (C : St w mg mb h₀ L l nw h) (B : Based h₁ h₀ c P ps) (hm : ∀ x v, l.lookup x = some v → m x = some v) (F' : Fr (regrown h₀ P ps') L h' m)
    (hk : ∀ b o, b ≠ P → h.get? b = some o → h'.get? b = some o) : St w mg mb (regrown h₀ P ps') L l nw h' := by
  refine ⟨⟨m, F', hm⟩, fun p hp => ?_, C.D, C.G.regrow B ps'⟩
  obtain ⟨⟨o, a1, a2⟩, b1, c1⟩ := C.N p hp
  have hne : p.1 ≠ P := by
    rintro rfl
    have := B.tab.2
    rw [c1] at this; cases this
  exact ⟨⟨o, hk _ _ hne a1, a2⟩, b1, by rw [regrown_get ps' hne]; exact c1⟩

theorem rdGL {sc : Scope} {cl : List (Str × Addr)} {C : Addr} {code : Value} {bi : Addr} {env : Env} {m : Str → Option Value} {x : Str} {v : Value} {pos : Pos} {Q : Value → Shared → Prop} (hn : s.heap.Ns C m) (hv : m x = some v) (h : Q v s)
    (hk : (genEnv sc cl C code bi env).scope.kind = .function := by rfl) (hl : (genEnv sc cl C code bi env).kindOf x = some .local := by rfl) (hd : (x == ("__debug__" : Str)) = false := by decide) :
    wpAny (model prog w) A (eval (.Name x pos) (genEnv sc cl C code bi env)) Q E s := wpAny_Name (wpAny_loadName_local hk hl hn hv h) hd
theorem rdGF {sc : Scope} {cl : List (Str × Addr)} {C c : Addr} {code : Value} {bi : Addr} {env : Env} {x : Str} {v : Value} {pos : Pos} {Q : Value → Shared → Prop} (hc : cl.lookup x = some c) (hv : s.heap.IsCell c (some v)) (h : Q v s)
    (hk : (genEnv sc cl C code bi env).scope.kind = .function := by rfl) (hl : (genEnv sc cl C code bi env).kindOf x = some .free := by rfl) (hd : (x == ("__debug__" : Str)) = false := by decide) (hn : (x == ("__classdict__" : Str)) = false := by decide) :
    wpAny (model prog w) A (eval (.Name x pos) (genEnv sc cl C code bi env)) Q E s := wpAny_Name (wpAny_loadName_free hk hl hc hv h hn) hd

/-- a join of what a generator gives -/
theorem genJ {f : List Nat → List Nat} {rs : List (List Nat)} {elt iter : Expr} {x : Str} {px gpos apos pos cpos : Pos} {ck : Nat} {nl : Str} {scope : Scope} {cl : List (Str × Addr)} {Q : Value → Shared → Prop}
    (C : St w mg mb h₀ L l nw s.heap) (B : Based h₁ h₀ c P ps) (M : BMod h₀ mainGlobals mg bm ob) (GB : AllBare s.gens) (hcode : ccd = .ref c) (hnf : codeAmong gpos ps.toList = none)
    (hh : A.handled = none) (hroom : A.depth < recursionLimit) (hnl : nl = S [10])
    (hco : scope.isCoroutine = false) (hclos : closureFor scope (envX cn cs L a ccd cel) = pure cl) (hcell : ∀ y ∈ scope.names, y.2 ≠ .cell) (h0 : scope.names.lookup (".0" : Str) = some NameKind.local)
    (hx : scope.names.lookup x = some .local) (hkind : scope.kind = .function)
    (hit : ∀ (k : Nat) Q', (∀ b s₁ vs, Kp s.heap s₁.heap → s₁.gens = s.gens → s₁.os = s.os → s₁.heap.IsList b vs.toArray → StrsAre vs (rs.map S) → Q' (.ref b) s₁) → wpAny (model prog w) A (eval iter (envX cn cs L a ccd cel)) Q' E { s with toks := k })
    (helt : ∀ c' D r t (u : Shared) m₂ A' E', A'.handled = none → r ∈ rs → u.heap.Ns D m₂ → m₂ x = some (.str (S r) t) → (∀ d v, (d, isC v) ∈ nw → u.heap.IsCell d v) →
      wpAny (model prog w) A' (eval elt (genEnv scope cl D (.ref c') builtinsNs (envX cn cs L a ccd cel))) (fun y s₃ => (∃ u', y = .str (S (f r)) u') ∧ Keeps u s₃) E' u)
    (hsz : wtL (rs.map f) ≤ 16777216)
    (hQ : ∀ s' t' c', Based h₁ (regrown h₀ P (ps ++ #[rawInt gpos.line, rawInt gpos.col, .ref c'])) c P (ps ++ #[rawInt gpos.line, rawInt gpos.col, .ref c']) → St w mg mb (regrown h₀ P (ps ++ #[rawInt gpos.line, rawInt gpos.col, .ref c'])) L l nw s'.heap →
      BMod (regrown h₀ P (ps ++ #[rawInt gpos.line, rawInt gpos.col, .ref c'])) mainGlobals mg bm ob → AllBare s'.gens → s'.os = s.os → Q (.str (S (joinL (rs.map f))) t') s')
    (hs : ∀ x, genFold iter (envX cn cs L a ccd cel) x = pure x := by intro _; rfl)
    (hline : (apos.endLine == pos.line) = true := by rfl)
    (hbase : attributeBase (.Constant (.str nl) ck cpos) (Str.ofString "join") (envX cn cs L a ccd cel) (eval (.Constant (.str nl) ck cpos) (envX cn cs L a ccd cel)) = eval (.Constant (.str nl) ck cpos) (envX cn cs L a ccd cel) := by rfl) :
    wpAny (model prog w) A (eval (.Call (.Attribute (.Constant (.str nl) ck cpos) (Str.ofString "join") apos) [.GeneratorExp elt [⟨.Name x px, iter, [], 0⟩] scope gpos] [] pos) (envX cn cs L a ccd cel)) Q E s := by
  refine meth1 F.plainAttrs_str F.slot_str_join F.type_str_join (constS hnl fun t1 k1 => ⟨typeIs_str _ _ _, fun a ha => (nomatch ha), sp1 ?_⟩) hbase rfl hline
  obtain ⟨m, F, hm⟩ := C.F
  refine GeneratorExp_DF (K := .str) (L := L) (m := m) (pz := fun _ => true) (d := fun z : Str => PyData.str (S (f z.cps.toList))) B M hcode hnf hh hco hclos hcell h0 hx hkind hroom (hit k1 _ fun b s₁ vs hk hg hos hl hv => ?_) hs
  have F₁ : Fr h₀ L s₁.heap m := Fr.kp F hk
  have hLlt : L < s₁.heap.objs.size := by
    obtain ⟨oL, e⟩ := C.liveL
    exact Heap.lt_size (hk _ _ e)
  refine ⟨b, vs, rs.map S, s₁.heap.objs.size - 1, rfl, hl, hv.areOf, F₁, by rw [hg]; exact GB, C.G.T.nolimit.keeps F₁.keep, Nat.le_sub_one_of_lt hLlt, Nat.sub_one_lt_of_lt hLlt, ?_, ?_, ?_⟩
  · intro c' D A' E' z v u m₂ hA hD hU hz hKa hF hm2 hLC hku
    rw [List.forIn_nil]
    exact wpAny_pure ⟨rfl, ⟨u.heap, u.toks, rfl, fun _ _ e => e⟩⟩
  · intro c' D A' E' z v u m₂ hA hD hU hz hKa _ hF hm2 hLC hku
    obtain ⟨r, hr, rfl⟩ := List.mem_map.mp hz
    obtain ⟨t, rfl⟩ := hKa
    refine wpAny_mono (helt c' D r t u m₂ A' E' hA hr hF.ns hm2 fun d v hd => ?_) (fun y s₃ h₃ => ?_) fun _ _ x => x
    · obtain ⟨o, a1, a2⟩ := C.get hd
      have hne : d ≠ P := by
        rintro rfl
        have := (C.N _ hd).2.2
        have h9 := B.tab.2
        rw [this] at h9; cases h9
      exact ⟨o, hku _ _ hne (hk _ _ a1), a2⟩
    · obtain ⟨⟨u', rfl⟩, h₃⟩ := h₃
      exact ⟨.str _ _, h₃⟩
  · intro c' g s₅ B' F' G' hos5 hk5 X
    have hjo : JoinOk (S [10]) (((rs.map S).filter fun _ => true).map fun z : Str => S (f z.cps.toList)) = true := by
      refine joinOk_of ?_
      rw [List.filter_eq_self.mpr (fun _ _ => rfl), List.map_map, List.map_map, List.length_map, List.length_map]
      have e : wtL (rs.map f) = ((rs.map f).map (·.length)).sum + (rs.map f).length := rfl
      rw [List.map_map, List.length_map] at e
      show (rs.map fun r => (f r).length).sum + rs.length * 1 ≤ _
      have e2 : (rs.map ((fun r : List Nat => r.length) ∘ f)) = rs.map fun r => (f r).length := rfl
      rw [e2] at e
      omega
    have hLK : L ≤ s₁.heap.objs.size - 1 := Nat.le_sub_one_of_lt hLlt
    refine join_genD F' G' X hLK hjo (fun s' t' F'' G'' hos' hk' => ?_) ?_
    · have e : ((rs.map S).filter fun _ => true).map (fun z : Str => S (f z.cps.toList)) = (rs.map f).map S := by
        rw [List.filter_eq_self.mpr (fun _ _ => rfl), List.map_map, List.map_map]; rfl
      rw [e, txt_join]
      refine hQ s' t' c' B' (C.regrow B hm F'' fun d o hd e => ?_) (M.regrown B) G'' (hos'.trans (hos5.trans hos))
      have e1 := hk _ _ e
      exact hk' _ _ (Nat.le_sub_one_of_lt (Heap.lt_size e1)) (hk5 _ _ hd e1)
    · rw [List.length_map, sz16]
      have := wtL_len (rs.map f)
      rw [List.length_map] at this
      omega
end
end
end Mine
end

-- W12
section
set_option maxRecDepth 100000
set_option linter.unusedVariables false
set_option Elab.async false
namespace Mine
open PySem PySem.W PyProof.Rows PySem.Calls PySem.Builtin PySem.Builtin.Str

noncomputable section
theorem fill9 : (PySem.Challenge.rw_lg0018_01, hd.heap_39) = (PySem.Challenge.rw_lg0018_01, hd.heap_39) := by k_fill; rfl

/-- what reformat_comment makes of the paragraph -/
def commT (hdr : List Nat) (nd : List (List Nat)) : List Nat := match nd.getLast? with
  | some [] => joinL (nd.dropLast.map fun r => hdr ++ r) ++ [10]
  | _ => joinL (nd.map fun r => hdr ++ r)

section
variable {prog : Program} {w : World} {mg mb : Str → Option Value} {A : Around} {E : Value → Shared → Prop} {s : Shared} {t u : Tok} {Q : Value → Shared → Prop}
theorem maxI {x y : Int} (hh : A.handled = none) (h : ∀ t' h' k, Kp s.heap h' → Q (.int (max x y) t') { s with heap := h', toks := k }) : wpAny (model prog w) A (call (.builtin "max") [.int x t, .int y u]) Q E s := by
  refine max_two_ints hh fun h' tk hk => ?_
  by_cases hc : y > x
  · rw [if_pos hc]
    have := h u h' tk hk
    rw [Int.max_eq_right (by omega)] at this
    exact this
  · rw [if_neg hc]
    have := h t h' tk hk
    rw [Int.max_eq_left (by omega)] at this
    exact this
theorem splitK {ls : List (List Nat)} (h0 : ls ≠ []) (hf : ∀ r ∈ ls, 10 ∉ r) (hsz : (joinL ls).length ≤ 1000000)
    (h : ∀ b s' vs, Kp s.heap s'.heap → s'.gens = s.gens → s'.os = s.os → s'.heap.IsList b vs.toArray → StrsAre vs (ls.map S) → Q (.ref b) s') :
    wpAny (model prog w) A (call (.builtin "str.split") [.str (S (joinL ls)) t, .str (S [10]) u]) Q E s := by
  refine SCG.split1 (Fm := fun s' => Kp s.heap s'.heap ∧ s'.gens = s.gens ∧ s'.os = s.os) ?_ ⟨Kp.refl _, rfl, rfl⟩ (by decide) (fun D vl s' e1 hF hl => ?_) ?_ ?_
  · intro s' ob k ⟨a, b, c⟩
    exact ⟨Kp.trans a (kp_push _ _), b, c⟩
  · have e2 := strsAre_of_values vl
    rw [e1, txt_split h0 hf] at e2
    exact h D s' _ hF.1 hF.2.1 hF.2.2 hl e2
  · show (joinL ls).length ≤ sizeLine; rw [sz16]; omega
  · have e1 := StrLaws.occ_length_le (S (joinL ls)) (S [10]) 0 (S (joinL ls)).length ((S (joinL ls)).length + 1)
    have e3 : (S (joinL ls)).length = (joinL ls).length := rfl
    rw [length_partsBetween, sz16]; omega
theorem wtL_mapd (n : Nat) (rs : List (List Nat)) : wtL (rs.map (List.drop n)) ≤ wtL rs := by
  induction rs with
  | nil => exact Nat.le_refl _
  | cons r rs ih => rw [List.map_cons, wtL_cons, wtL_cons, List.length_drop]; omega
theorem wtL_mapp (p : List Nat) (rs : List (List Nat)) : wtL (rs.map fun r => p ++ r) = wtL rs + p.length * rs.length := by
  induction rs with
  | nil => rfl
  | cons r rs ih => rw [List.map_cons, wtL_cons, wtL_cons, List.length_cons, List.length_append, Nat.mul_succ]; omega

set_option maxHeartbeats 4000000 in
theorem comment_spec {rows : List (List Nat)} {hdr : List Nat} {lim : Int} {P bm : Addr} {ob : Obj} {v : Tok} (G : Gd w mg mb s.heap) (B : Based s.heap s.heap 59 P #[]) (M : BMod s.heap mainGlobals mg bm ob) (GB : AllBare s.gens)
   (hroom : A.depth + 10 < recursionLimit) (hh : A.handled = none) (h0 : rows ≠ []) (hf : ∀ l ∈ rows, 10 ∉ l) (hw : wtL rows ≤ 10000) (hn : hdr.length ≤ 8) (hi : ∀ l ∈ rows.map (List.drop hdr.length), (ind l).length ≤ 20)
   (hp0 : para (rows.map (List.drop hdr.length)) (max (lim - hdr.length) 20) ≠ []) (hpf : ∀ l ∈ para (rows.map (List.drop hdr.length)) (max (lim - hdr.length) 20), 10 ∉ l) (hpw : wtL (para (rows.map (List.drop hdr.length)) (max (lim - hdr.length) 20)) ≤ 700000)
   (h : ∀ s' t', (∀ b o, b ≠ P → s.heap.get? b = some o → s'.heap.get? b = some o) → (∃ ps, s'.heap.IsCode 59 P ps ∧ s'.heap.TableAt 59 P ps) → AllBare s'.gens → s'.os = s.os →
      Q (.str (S (commT hdr (para (rows.map (List.drop hdr.length)) (max (lim - hdr.length) 20)))) t') s') :
   wpAny (model prog w) A (call (.ref 60) [.str (S (joinL rows)) t, .int lim u, .str (S hdr) v]) Q E s := by
  have hlen := wtL_len rows
  have hjl := joinL_len rows
  refine' call_fnC (f := 60) (binds := [(Str.ofString "data", .str (S (joinL rows)) t), (Str.ofString "limit", .int lim u), (Str.ofString "comment_header", .str (S hdr) v)]) (lm := [(Str.ofString "data", .str (S (joinL rows)) t), (Str.ofString "limit", .int lim u)])
    (cl := fun L => [(Str.ofString "lc", L + 1 + 1), (Str.ofString "comment_header", L + 1)]) (cm := fun L => [(L + 1 + 1, none), (L + 1, some (.str (S hdr) v))]) G (by omega) ?ho ?hcd ?hb ?hkd ?hnd ?hcl ?hcm ?hcd2 ?hl ?h1 ?h2 ?h3 ?_
  case ho => k_is
  case hcd => k_is
  case hb => exact rfl
  case hkd => exact rfl
  case hnd => decide
  case hcl => exact fun _ => rfl
  case hcm => exact fun _ => rfl
  case hcd2 => exact fun L => List.nodup_cons.mpr ⟨fun hm => (List.mem_cons.mp hm).elim (fun e => absurd e (Nat.succ_ne_self _)) (fun hm => (nomatch hm)), List.nodup_cons.mpr ⟨List.not_mem_nil, List.nodup_nil⟩⟩
  case hl => exact ⟨rfl, rfl, trivial⟩
  case h1 => exact rfl
  case h2 => exact rfl
  case h3 => exact rfl
  intro L h₁ tk C hLe
  have O : SameO s { s with heap := h₁, toks := tk } := SameO.refl s
  have C : St w mg mb s.heap L [(Str.ofString "data", .str (S (joinL rows)) t), (Str.ofString "limit", .int lim u)] [(L + 1 + 1, isC none), (L + 1, isC (some (.str (S hdr) v)))] h₁ := C
  -- lc = len(comment_header)
  refine wpAny_execs_cons (wpAny_Assign_Name (callB C (by k_is) (by boot_fast) (sp1 (rdC C rfl (.tail _ (.head _)) (lenS (fun t1 k1 => ?_) (by omega))))))
  refine stC C rfl .head (fun h' C => ?_)
  show wpAny _ _ (execs _ _) _ _ _
  -- data = '\\n'.join(line[lc:] for line in data.split('\\n'))
  refine wpAny_execs_cons (wpAny_Assign_Name ?_)
  refine genJ (f := List.drop hdr.length) (rs := rows) (c := 59) (cl := [(Str.ofString "lc", L + 1 + 1)]) C B M GB rfl rfl hh (by show A.depth + 1 < _; omega) (by decide +kernel) rfl rfl (by decide) rfl rfl rfl ?_ ?_ ?_ ?_
  · intro k Q' hQ'
    refine meth1 F.plainAttrs_str F.slot_str_split F.type_str_split (rdL C rfl ⟨typeIs_str _ _ _, fun a ha => (nomatch ha), sp1 (constS (x := [10]) (by decide +kernel) fun t2 k2 => ?_)⟩)
    exact splitK h0 hf (by omega) (fun b s' vs hk hg ho hl hv => hQ' b s' vs hk hg ho hl hv)
  · intro c' D r t3 u3 m₂ A' E' hA hr hns hm hce
    have hrl := wtL_mem hr
    refine sliceS (rdGL hns hm (partE (rdGF rfl (hce _ _ (.head _)) (partN ⟨r, t3, some (hdr.length, t1), none, rfl, rfl, rfl, by omega, fun t4 k4 h' hk' => ⟨⟨t4, ?_⟩, ⟨h', k4, rfl, hk'⟩⟩⟩))))
    rw [show (none : Option (Int × Tok)).map (·.1) = none from rfl, show (some ((hdr.length : Int), t1)).map (·.1) = some (hdr.length : Int) from rfl, cut_from]
  · have := wtL_mapd hdr.length rows; omega
  intro s₁ t5 c1 B1 C M1 GB1 hos1
  have O1 : SameO s₁ s₁ := SameO.refl _
  have hos : s₁.os = s.os := hos1
  clear O
  have hbw : wtL (rows.map (List.drop hdr.length)) ≤ 10000 := by have := wtL_mapd hdr.length rows; omega
  have hb0 : rows.map (List.drop hdr.length) ≠ [] := by simpa using h0
  have hbf : ∀ l ∈ rows.map (List.drop hdr.length), 10 ∉ l := by
    intro l hl
    obtain ⟨r, hr, rfl⟩ := List.mem_map.mp hl
    exact fun hm => hf r hr (List.mem_of_mem_drop hm)
  generalize hbod : rows.map (List.drop hdr.length) = bodies at *
  refine stX C O1 (fun s₂ C O => ?_)
  show wpAny _ _ (execs _ _) _ _ _
  -- format_width
  refine wpAny_execs_cons (wpAny_Assign_Name (callB C (by k_is) (by boot_fast) (sp2 (wpAny_BinOp (rdL C rfl (callB C (by k_is) (by boot_fast) (sp1 (rdC C rfl (.tail _ (.head _)) (lenS (fun t6 k6 => PySem.P.sub_int (wpAny_Constant_int ?_)) (by omega))))))))))
  refine maxI hh (fun t7 h' k7 hk => ?_)
  refine stX (C.keeps hk) O (fun s₃ C O => ?_)
  show wpAny _ _ (execs _ _) _ _ _
  -- reformat_paragraph
  refine wpAny_execs_cons (wpAny_Assign_Name (callK C (by k_is) (by k_is) (sp2 (rdL C rfl (rdL C rfl ⟨C.gd.X, ?_⟩)))))
  refine para_spec C.gd (by show A.depth + 1 + 5 < _; omega) hh hb0 hbf hbw hi (fun h' k8 t8 hk => ?_)
  generalize hnd : para bodies (max (lim - hdr.length) 20) = nd at *
  refine stX (C.keeps hk) O (fun s₄ C O => ?_)
  show wpAny _ _ (execs _ _) _ _ _
  have hndl := wtL_len nd
  have hndj := joinL_len nd
  -- newdata.split('\\n')
  refine wpAny_execs_cons (wpAny_Assign_Name (meth1 F.plainAttrs_str F.slot_str_split F.type_str_split (rdL C rfl ⟨typeIs_str _ _ _, fun a ha => (nomatch ha), sp1 (constS (x := [10]) (by decide +kernel) fun t9 k9 => ?_)⟩)))
  refine splitS C hp0 hpf rfl (by omega) (fun bn h' k C => ?_)
  refine stX C O (fun s₅ C O => ?_)
  show wpAny _ _ (execs _ _) _ _ _
  refine wpAny_execs_cons (wpAny_Assign_Name (constS (x := []) (by decide +kernel) fun t10 k10 => stX C O fun s₆ C O => ?_))
  show wpAny _ _ (execs _ _) _ _ _
  obtain ⟨zs, z, hz⟩ : ∃ zs z, nd = zs ++ [z] := ⟨nd.dropLast, nd.getLast hp0, (List.dropLast_concat_getLast hp0).symm⟩
  have hzs : wtL zs ≤ 700000 := by have := wtL_app zs [z]; rw [← hz] at this; omega
  -- the end's row
  refine seqJ (fun s' => ∃ bq tq zq suf, (zq, suf) = (if z = [] then (zs, [10]) else (nd, ([] : List Nat))) ∧ St w mg mb (regrown s.heap P (#[] ++ #[rawInt 39, rawInt 21, .ref c1])) L [(Str.ofString "newdata", .ref bq), (Str.ofString "block_suffix", .str (S suf) tq)] [(bq, isT (zq.map S)), (L + 1 + 1, isC (some (.int hdr.length t1))), (L + 1, isC (some (.str (S hdr) v)))] s'.heap ∧ SameO s₁ s') ?_ ?_
  · have H1 : HasT s₆.heap bn (zs.map S ++ [S z]) := by have := C.hasT (.head _); rw [hz, List.map_append] at this; exact this
    have hzl : z.length ≤ 700000 := by
      have : wtL nd = wtL zs + wtL [z] := by rw [hz, wtL_app]
      rw [wtL_cons, wtL_nil] at this; omega
    refine wpAny_If (isTrue_not (isTrue_plain (subL (rdL C rfl (wpAny_UnaryOp (wpAny_Constant_int (PySem.P.neg_int ⟨bn, _, _, rfl, rfl, typeT' H1, getLastT' H1 fun t11 => truthyS (fun k11 => ?_) (by omega)⟩)))))))
    by_cases hze : z = []
    · rw [if_pos (by rw [hze]; rfl)]
      refine wpAny_execs_cons (wpAny_Assign_Name (constS (x := [10]) (by decide +kernel) fun t12 k12 => stX C O fun s₇ C O => ?_))
      show wpAny _ _ (execs _ _) _ _ _
      refine wpAny_execs_cons (wpAny_Assign_Name (sliceT (rdL C rfl (partN (partE (wpAny_UnaryOp (wpAny_Constant_int (PySem.P.neg_int ⟨bn, _, none, some (_, _), _, _, rfl, C, .head _, by rw [List.length_map]; omega, rfl, rfl, fun bz h' C => ?_⟩))))))))
      refine stX C O (fun s₈ C O => wpAny_execs_nil ?_)
      have hcut : cut (nd.map S) (Option.map (fun x : Int × Tok => x.1) none) (some (-1 : Int)) = zs.map S := by
        rw [hz, List.map_append]
        exact cut_butLast _ _
      refine ⟨rfl, bz, t12, zs, [10], by rw [if_pos hze], ?_, O⟩
      have C2 := (C.drop (nw' := [(bz, _), (L + 1 + 1, isC (some (.int hdr.length t1))), (L + 1, isC (some (.str (S hdr) v)))]) (List.Sublist.cons₂ _ (List.Sublist.cons _ (List.Sublist.refl _)))).sub (l' := [(Str.ofString "newdata", .ref bz), (Str.ofString "block_suffix", .str (S [10]) t12)]) ⟨rfl, rfl, trivial⟩
      rw [← hcut]
      exact C2
    · rw [if_neg (by simpa using hze)]
      exact wpAny_execs_nil ⟨rfl, bn, t10, nd, [], by rw [if_neg hze], C.sub ⟨rfl, rfl, trivial⟩, O⟩
  · clear C O
    rintro s₇ ⟨bq, tq, zq, suf, hzq, C, O⟩
    have hq1 : wtL zq ≤ 700000 ∧ suf.length ≤ 1 ∧ joinL (zq.map fun r => hdr ++ r) ++ suf = commT hdr nd := by
      unfold commT
      by_cases hze : z = []
      · rw [if_pos hze] at hzq
        cases hzq
        rw [hz, hze, List.getLast?_concat, List.dropLast_concat]
        exact ⟨hzs, Nat.le_refl _, rfl⟩
      · rw [if_neg hze] at hzq
        cases hzq
        refine ⟨hpw, Nat.zero_le _, ?_⟩
        rw [hz, List.getLast?_concat]
        cases z with
        | nil => exact absurd rfl hze
        | cons c r => simp
    obtain ⟨hq1, hq2, hq3⟩ := hq1
    have hql := wtL_len zq
    have hpl : wtL (zq.map fun r => hdr ++ r) ≤ 7000000 := by
      rw [wtL_mapp]
      have := Nat.mul_le_mul hn hql
      have h9 := Nat.mul_le_mul (Nat.le_refl 8) hq1
      omega
    refine wpAny_execs_cons (wpAny_Return_some (wpAny_BinOp ?_))
    refine genJ (f := fun r => hdr ++ r) (rs := zq) (c := 59) (cl := [(Str.ofString "comment_header", L + 1)]) C B1 M1 (by rw [O.1]; exact GB1) rfl rfl hh (by show A.depth + 1 < _; omega) (by decide +kernel) rfl rfl (by decide) rfl rfl rfl ?_ ?_ ?_ ?_
    · intro k Q' hQ'
      obtain ⟨o, ho, vs, hv, n, rfl⟩ := C.get (.head _)
      exact rdL C rfl (hQ' bq _ vs (Kp.refl _) rfl rfl ⟨_, ho, rfl, n, rfl⟩ hv)
    · intro c' D r t3 u3 m₂ A' E' hA hr hns hm hce
      have hrl := wtL_mem hr
      refine wpAny_BinOp (rdGF rfl (hce _ _ (.tail _ (.tail _ (.head _)))) (rdGL hns hm (addS (fun t4 k4 => ⟨⟨t4, rfl⟩, ⟨u3.heap, k4, rfl, fun _ _ e => e⟩⟩) (by omega))))
    · omega
    intro s₈ t13 c2 B2 C M2 GB2 hos2
    have hjl2 := joinL_len (zq.map fun r => hdr ++ r)
    refine rdL C rfl (addS (fun t14 k14 => ?_) (by omega))
    rw [hq3]
    obtain ⟨m, F, hm⟩ := C.F
    refine h _ t14 (fun b o hb e => ?_) ⟨_, B2.codeAt F, B2.tabAt F⟩ GB2 (hos2.trans (O.2.2.trans hos))
    refine F.keep b o ?_
    rw [regrown_get _ hb, regrown_get _ hb]
    exact e
end
end
end Mine
end

-- W13
section
set_option maxRecDepth 100000
set_option linter.unusedVariables false
set_option Elab.async false
namespace Mine
open PySem PySem.W PyProof.Rows PySem.Calls PySem.Builtin PySem.Builtin.Str

noncomputable section
theorem fill10 : (PySem.Challenge.rw_lg0018_01, hd.heap_39) = (PySem.Challenge.rw_lg0018_01, hd.heap_39) := by k_fill; rfl

def abc : List Nat := [97, 98, 99, 100, 101, 102, 103, 104, 105, 106, 107, 108, 109, 110, 111, 112, 113, 114, 115, 116, 117, 118, 119, 120, 121, 122]
def wordOf (x : Int) : List Nat := (abc.drop (x / 9 / 9 % 18).toNat).take (1 + (x / 9 % 9).toNat)
def whites : List (List Nat) := [[], [32, 32], [12]]
def seps : List (List Nat) := [[32], [32], [32], [32, 32], [32], [9]]
/-- the last row longer -/
def onLast (b : List (List Nat)) (p : List Nat) : List (List Nat) := match b.getLast? with
  | some z => b.dropLast ++ [z ++ p]
  | none => b
def bodyA (b : List (List Nat)) (x : Int) : List (List Nat) :=
  if x % 9 = 8 then b ++ [whites.getD (x / 9 % 3).toNat []] else if x % 9 = 7 ∧ b ≠ [] then onLast b [32, 9] else b
def bodyS (inds : List (List Nat)) (b : List (List Nat)) (x : Int) : List (List Nat) :=
  if x % 9 ≥ 6 ∨ bodyA b x = [] then bodyA b x ++ [inds.getD (x / 9 % 4).toNat [] ++ wordOf x]
  else onLast (bodyA b x) (seps.getD (x % 9).toNat [] ++ wordOf x)
def numsOf (ns : List Int) : List Int := if ns.length > 1 then (ns.drop 1).take 40 else [1, 14, 69, 80, 25]
def bodiesOf (inds : List (List Nat)) (ns : List Int) : List (List Nat) := (numsOf ns).foldl (bodyS inds) []

theorem onLast_snoc (zs : List (List Nat)) (z p : List Nat) : onLast (zs ++ [z]) p = zs ++ [z ++ p] := by
  unfold onLast; rw [List.getLast?_concat, List.dropLast_concat]
theorem onLast_wt (b : List (List Nat)) (p : List Nat) : wtL (onLast b p) ≤ wtL b + p.length := by
  rcases List.eq_nil_or_concat b with rfl | ⟨zs, z, rfl⟩
  · show wtL [] ≤ _; rw [wtL_nil]; omega
  · rw [List.concat_eq_append, onLast_snoc, wtL_app, wtL_app, wtL_cons, wtL_cons, List.length_append, wtL_nil]; omega
theorem wordOf_len (x : Int) : (wordOf x).length ≤ 9 := by
  unfold wordOf
  rw [List.length_take]
  have : (x / 9 % 9) < 9 := Int.emod_lt_of_pos _ (by decide)
  have h0 : 0 ≤ (x / 9 % 9) := Int.emod_nonneg _ (by decide)
  omega
theorem getD_len {l : List (List Nat)} {n : Nat} (h : ∀ r ∈ l, r.length ≤ n) (k : Nat) : (l.getD k []).length ≤ n := by
  rw [List.getD_eq_getElem?_getD]
  cases e : l[k]? with
  | none => exact Nat.zero_le _
  | some r => exact h r (List.mem_of_getElem? e)
theorem bodyA_wt (b : List (List Nat)) (x : Int) : wtL (bodyA b x) ≤ wtL b + 3 := by
  unfold bodyA
  split
  · rw [wtL_app, wtL_cons, wtL_nil]
    have := getD_len (l := whites) (n := 2) (by decide) (x / 9 % 3).toNat
    omega
  · split
    · have := onLast_wt b [32, 9]
      simp only [List.length_cons, List.length_nil] at this
      omega
    · omega
theorem bodyS_wt {inds : List (List Nat)} (hi : ∀ r ∈ inds, r.length ≤ 3) (b : List (List Nat)) (x : Int) : wtL (bodyS inds b x) ≤ wtL b + 20 := by
  have h1 := bodyA_wt b x
  have h2 := wordOf_len x
  unfold bodyS
  split
  · rw [wtL_app, wtL_cons, wtL_nil, List.length_append]
    have := getD_len hi (x / 9 % 4).toNat
    omega
  · have h3 := onLast_wt (bodyA b x) (seps.getD (x % 9).toNat [] ++ wordOf x)
    have := getD_len (l := seps) (n := 2) (by decide) (x % 9).toNat
    rw [List.length_append] at h3
    omega
theorem fold_bwt {inds : List (List Nat)} (hi : ∀ r ∈ inds, r.length ≤ 3) : ∀ (xs : List Int) (b : List (List Nat)), wtL (xs.foldl (bodyS inds) b) ≤ wtL b + 20 * xs.length
  | [], b => by simp
  | x :: xs, b => by
    have h1 := bodyS_wt hi b x
    have h2 := fold_bwt hi xs (bodyS inds b x)
    rw [List.foldl_cons, List.length_cons]; omega
theorem numsOf_len (ns : List Int) : (numsOf ns).length ≤ 40 := by
  unfold numsOf
  split
  · rw [List.length_take]; omega
  · decide

theorem fdiv9 (x : Int) : x.fdiv 9 = x / 9 := Int.fdiv_eq_ediv_of_nonneg _ (by decide)
theorem fmodp (x : Int) {b : Int} (h : 0 ≤ b) : x.fmod b = x % b := Int.fmod_eq_emod_of_nonneg _ h

section
variable {prog : Program} {w : World} {mg mb : Str → Option Value} {A : Around} {E : Value → Shared → Prop} {s s₀ : Shared} {t u : Tok} {Q : Value → Shared → Prop} {h₀ : Heap} {L : Addr} {l : List (Str × Value)} {nw nw' : List (Addr × Shp)} {env : Env} {pos : Pos}
theorem intsAre_drop {vs : List Value} {ns : List Int} (h : IntsAre vs ns) : ∀ n, IntsAre (vs.drop n) (ns.drop n) := by
  induction h with
  | nil => intro n; simp; exact .nil
  | cons m t r ih =>
    intro n
    cases n with
    | zero => exact .cons m t r
    | succ n => exact ih n
theorem intsAre_take {vs : List Value} {ns : List Int} (h : IntsAre vs ns) : ∀ n, IntsAre (vs.take n) (ns.take n) := by
  induction h with
  | nil => intro n; simp; exact .nil
  | cons m t r ih =>
    intro n
    cases n with
    | zero => exact .nil
    | succ n => exact .cons m t (ih n)
theorem cut_1_41 {α : Type} (x : List α) (h : 1 < x.length) : cut x (some 1) (some 41) = (x.drop 1).take 40 := by
  show (x.drop (clipAt x.length ((1 : Nat) : Int))).take (clipAt x.length ((41 : Nat) : Int) - clipAt x.length ((1 : Nat) : Int)) = _
  rw [clipAt_nat, clipAt_nat, Nat.min_eq_left (a := 1) (by omega)]
  rcases Nat.le_total 41 x.length with h | h
  · rw [Nat.min_eq_left h]
  · rw [Nat.min_eq_right h, List.take_of_length_le (by rw [List.length_drop]; omega), List.take_of_length_le (by rw [List.length_drop]; omega)]

theorem getD_get {ls : List (List Nat)} {k : Int} (h0 : 0 ≤ k) (h1 : k < ls.length) : (ls.map S)[k.toNat]? = some (S (ls.getD k.toNat [])) := by
  have : k.toNat < ls.length := by omega
  rw [List.getD_eq_getElem?_getD, List.getElem?_eq_getElem this, List.getElem?_map, List.getElem?_eq_getElem this]; rfl

theorem pushL {vs : List Value} {h : Heap} (C : St w mg mb h₀ L l nw h) : St w mg mb h₀ L l ((h.objs.size, isL vs) :: nw) (h.push { cls := .type "list", data := .seq vs.toArray }) := C.push ⟨_, rfl⟩
theorem pushT {vs : List Value} {ts : List Str} {h : Heap} (C : St w mg mb h₀ L l nw h) (hv : StrsAre vs ts) : St w mg mb h₀ L l ((h.objs.size, isT ts) :: nw) (h.push { cls := .type "list", data := .seq vs.toArray }) := C.push ⟨_, hv, _, rfl⟩
theorem intsAre_get {vs : List Value} {ns : List Int} (h : IntsAre vs ns) : ∀ {i : Nat} {v : Value}, vs[i]? = some v → ∃ (hi : i < ns.length) (t : Tok), v = .int ns[i] t := by
  induction h with
  | nil => intro i v e; simp at e
  | cons m t r ih =>
    intro i v e
    cases i with
    | zero => simp at e; exact ⟨by simp, t, e.symm⟩
    | succ i => obtain ⟨hi, t', e'⟩ := ih (by simpa using e); exact ⟨by simpa using hi, t', by simpa using e'⟩

set_option maxHeartbeats 8000000 in
theorem bodies_spec {ns : List Int} {inds : List (List Nat)} {bs bi : Addr} {vs : List Value} (G : Gd w mg mb s.heap) (hroom : A.depth + 5 < recursionLimit) (hh : A.handled = none) (hu : A.units + 100 < cLine)
   (hs : s.heap.IsList bs vs.toArray) (hv : IntsAre vs ns) (hsl : ns.length ≤ 1000000) (H : HasT s.heap bi (inds.map S)) (hil : inds.length = 4) (hi : ∀ r ∈ inds, r.length ≤ 3)
   (h : ∀ D h' tk, Kp s.heap h' → s.heap.get? D = none → HasT h' D ((bodiesOf inds ns).map S) → Q (.ref D) { s with heap := h', toks := tk }) :
   wpAny (model prog w) A (call (.ref 81) [.ref bs, .ref bi]) Q E s := by
  have hvl := hv.length
  refine' call_fn3 (f := 81) (binds := [(Str.ofString "script", .ref bs), (Str.ofString "indents", .ref bi)]) G (by omega) ?ho ?hcd ?hb ?hl ?hc ?h1 ?h2 ?h3 ?_
  case ho => k_is
  case hcd => k_is
  case hb => exact rfl
  case hl => exact rfl
  case hc => exact rfl
  case h1 => exact rfl
  case h2 => exact rfl
  case h3 => exact rfl
  intro L h₁ tk C
  have O : SameO s { s with heap := h₁, toks := tk } := SameO.refl s
  -- numbers
  refine seqJ (fun s' => ∃ bn us, IntsAre us (numsOf ns) ∧ St w mg mb s.heap L [(Str.ofString "numbers", .ref bn), (Str.ofString "indents", .ref bi)] [(bn, isL us)] s'.heap ∧ SameO s s') ?_ ?_
  · have hs1 : h₁.IsList bs vs.toArray := let ⟨o, a, r⟩ := hs; ⟨o, C.kp _ _ a, r⟩
    refine wpAny_Assign_Name (wpAny_IfExp (wpAny_isTrue_Compare1 (callB C (by k_is) (by boot_fast) (sp1 (rdL C rfl (len_list hs1 (by rw [List.size_toArray]; omega) (wpAny_Constant_int (PySem.P.gt_int (wpAny_truthy_bool ?_)))))))))
    rw [List.size_toArray, hvl]
    by_cases hc : ns.length > 1
    · rw [if_pos (decide_eq_true (show (ns.length : Int) > 1 by omega))]
      refine sliceL (rdL C rfl (partE (wpAny_Constant_int (partE (wpAny_Constant_int ⟨bs, vs, some (1, _), some (41, _), rfl, hs1, by omega, rfl, rfl, fun bn h' n hk hf hg => ?_⟩)))))
      have C := C.add hk hf hg (P := isL (cut vs (some 1) (some 41))) ⟨n, rfl⟩
      refine stX C O (fun s₁ C O => ⟨rfl, bn, _, ?_, C.sub ⟨rfl, rfl, trivial⟩, O⟩)
      rw [cut_1_41 _ (by omega)]
      unfold numsOf
      rw [if_pos hc]
      exact intsAre_take (intsAre_drop hv _) _
    · rw [if_neg (by simpa using (show ¬ ((ns.length : Int) > 1) by omega))]
      refine wpAny_List_spliced ?_
      refine args_cons (wpAny_Constant_int (args_cons (wpAny_Constant_int (args_cons (wpAny_Constant_int (args_cons (wpAny_Constant_int (args_cons (wpAny_Constant_int (args_nil ⟨by rw [sz16]; simp, ?_⟩)))))))))) 
      have hnn : numsOf ns = [1, 14, 69, 80, 25] := by unfold numsOf; rw [if_neg hc]
      rw [hnn]
      exact stX (pushL C) O (fun s₁ C O => ⟨rfl, _, _, .cons _ _ (.cons _ _ (.cons _ _ (.cons _ _ (.cons _ _ .nil)))), C.sub ⟨rfl, rfl, trivial⟩, O⟩)
  clear C O
  rintro s₁ ⟨bn, us, hus, C, O⟩
  have hul := hus.length
  have hnl := numsOf_len ns
  refine wpAny_execs_cons (wpAny_Assign_Name (nilL C fun D h' C => stX C O fun s₂ C O => ?_))
  show wpAny _ _ (execs _ _) _ _ _
  refine seqJ (fun s' => St w mg mb s.heap L [(Str.ofString "bodies", .ref D)] [(D, isT ((bodiesOf inds ns).map S))] s'.heap ∧ SameO s s') ?_ ?_
  · refine for_list (s₀ := s) (h₀ := s.heap) (mg := mg) (mb := mb) (b := bn) (vs := us) hh (fun it i s' => ∃ bb, St w mg mb s.heap L [(Str.ofString "bodies", .ref D), (Str.ofString "indents", .ref bi)] [(it, isLI bn i), (D, isT (bb.map S)), (bn, isL us)] s'.heap ∧ SameO s s' ∧
      bb = ((numsOf ns).take i).foldl (bodyS inds) []) (rdL C rfl ⟨rfl, _, _, C, O, ?_, fun it s₃ C O hk => ⟨[], ?_, O, rfl⟩⟩) ?_
    rotate_left
    · exact C.sub ⟨rfl, rfl, trivial⟩
    rotate_left
    · obtain ⟨o, ho, n, rfl⟩ := C.get (.tail _ (.head _))
      exact ⟨_, ho, rfl, n, rfl⟩
    clear C O
    rintro it i s₃ hile ⟨bb, C, O, hbb⟩
    refine ⟨_, _, C, O, ?_, ?_, ?_, ?_⟩
    · obtain ⟨o, ho, n, rfl⟩ := C.get (.tail _ (.tail _ (.head _)))
      exact ⟨_, ho, rfl, n, rfl⟩
    · have nd := C.D
      intro e
      exact (List.nodup_cons.mp nd).1 (by rw [← e]; exact .tail _ (.head _))
    · intro v s₄ hvi C O
      obtain ⟨hin, tx, rfl⟩ := intsAre_get hus hvi
      have hbwt : wtL bb ≤ 800 := by
        have := fold_bwt hi ((numsOf ns).take i) []
        rw [← hbb, List.length_take, wtL_nil] at this
        omega
      have hbl := wtL_len bb
      have hnext : ((numsOf ns).take (i + 1)).foldl (bodyS inds) [] = bodyS inds bb (numsOf ns)[i] := by
        rw [List.take_add_one, List.getElem?_eq_getElem hin, List.foldl_append, ← hbb]; rfl
      generalize (numsOf ns)[i] = x at *
      have r18 : 0 ≤ x / 9 / 9 % 18 ∧ x / 9 / 9 % 18 < 18 := ⟨Int.emod_nonneg _ (by decide), Int.emod_lt_of_pos _ (by decide)⟩
      have r9 : 0 ≤ x / 9 % 9 ∧ x / 9 % 9 < 9 := ⟨Int.emod_nonneg _ (by decide), Int.emod_lt_of_pos _ (by decide)⟩
      have r3 : 0 ≤ x / 9 % 3 ∧ x / 9 % 3 < 3 := ⟨Int.emod_nonneg _ (by decide), Int.emod_lt_of_pos _ (by decide)⟩
      have r4 : 0 ≤ x / 9 % 4 ∧ x / 9 % 4 < 4 := ⟨Int.emod_nonneg _ (by decide), Int.emod_lt_of_pos _ (by decide)⟩
      have rw9 : 0 ≤ x % 9 ∧ x % 9 < 9 := ⟨Int.emod_nonneg _ (by decide), Int.emod_lt_of_pos _ (by decide)⟩
      -- rest, start
      refine wpAny_execs_cons (wpAny_Assign_Name (wpAny_BinOp (rdL C rfl (wpAny_Constant_int (floordiv_int (by decide) ?_)))))
      rw [fdiv9]
      refine stX C O (fun s₅ C O => ?_)
      show wpAny _ _ (execs _ _) _ _ _
      refine wpAny_execs_cons (wpAny_Assign_Name (wpAny_BinOp (wpAny_BinOp (rdL C rfl (wpAny_Constant_int (floordiv_int (by decide) (wpAny_Constant_int (mod_int' (by decide) ?_))))))))
      rw [fdiv9, fmodp _ (by decide)]
      refine stX C O (fun s₆ C O => ?_)
      show wpAny _ _ (execs _ _) _ _ _
      -- word
      refine wpAny_execs_cons (wpAny_Assign_Name (sliceS (constS (x := abc) (by decide +kernel) fun t1 k1 => partE (rdL C rfl ?_))))
      refine partE (wpAny_BinOp (wpAny_BinOp (rdL C rfl (wpAny_Constant_int (PySem.P.add_int (wpAny_BinOp (rdL C rfl (wpAny_Constant_int (mod_int' (by decide) (PySem.P.add_int ?_))))))))))
      rw [fmodp _ (by decide)]
      refine ⟨abc, t1, some (_, _), some (_, _), rfl, rfl, rfl, by decide, fun t2 k2 h' hk => ?_⟩
      have hword : cut abc (some (x / 9 / 9 % 18)) (some (x / 9 / 9 % 18 + 1 + x / 9 % 9)) = wordOf x := by
        unfold wordOf
        obtain ⟨a1, ha1⟩ := Int.eq_ofNat_of_zero_le r18.1
        obtain ⟨a2, ha2⟩ := Int.eq_ofNat_of_zero_le r9.1
        have b1 := r18.2
        have b2 := r9.2
        rw [ha1] at b1
        rw [ha2] at b2
        rw [ha1, ha2]
        have e2 : (a1 : Int) + 1 + (a2 : Int) = ((a1 + (1 + a2) : Nat) : Int) := by omega
        rw [e2, cut_mid _ _ _ (by show _ ≤ 26; omega), Nat.add_sub_cancel_left]
        rfl
      rw [show (some (x / 9 / 9 % 18, _)).map (fun z : Int × Tok => z.1) = some (x / 9 / 9 % 18) from rfl, show (some (x / 9 / 9 % 18 + 1 + x / 9 % 9, _)).map (fun z : Int × Tok => z.1) = some (x / 9 / 9 % 18 + 1 + x / 9 % 9) from rfl, hword]
      refine stX (C.keeps hk) O (fun s₇ C O => ?_)
      show wpAny _ _ (execs _ _) _ _ _
      have hwl := wordOf_len x
      -- way
      refine wpAny_execs_cons (wpAny_Assign_Name (wpAny_BinOp (rdL C rfl (wpAny_Constant_int (mod_int' (by decide) ?_)))))
      rw [fmodp _ (by decide)]
      refine stX C O (fun s₈ C O => ?_)
      show wpAny _ _ (execs _ _) _ _ _
      have hAw := bodyA_wt bb x
      have hAl := wtL_len (bodyA bb x)
      -- a row without words, white signs at the end
      refine seqJ (fun s' => ∃ tr tw tq, St w mg mb s.heap L [(Str.ofString "way", .int (x % 9) tw), (Str.ofString "word", .str (S (wordOf x)) tq), (Str.ofString "rest", .int (x / 9) tr), (Str.ofString "bodies", .ref D), (Str.ofString "indents", .ref bi)] [(it, isLI bn (i + 1)), (D, isT ((bodyA bb x).map S)), (bn, isL us)] s'.heap ∧ SameO s s') ?_ ?_
      · refine wpAny_If (wpAny_isTrue_Compare1 (rdL C rfl (wpAny_Constant_int (PySem.P.eq_int (wpAny_truthy_bool ?_)))))
        by_cases h8 : x % 9 = 8
        · rw [if_pos (by rw [h8]; rfl)]
          have hA : bodyA bb x = bb ++ [whites.getD (x / 9 % 3).toNat []] := by unfold bodyA; rw [if_pos h8]
          refine wpAny_execs_cons (wpAny_Expr (meth1 F.plainAttrs_list F.slot_list_append F.type_list_append (rdL C rfl ⟨typeT C (.tail _ (.head _)), dictT C (.tail _ (.head _)), sp1 (subL ?_)⟩)))
          refine wpAny_List_spliced (args_cons (constS (x := []) (by decide +kernel) fun t3 k3 => args_cons (constS (x := [32, 32]) (by decide +kernel) fun t4 k4 => args_cons (constS (x := [12]) (by decide +kernel) fun t5 k5 => args_nil ⟨by rw [sz16]; simp, ?_⟩))))
          have C := pushT C (StrsAre.cons (S []) t3 (.cons (S [32, 32]) t4 (.cons (S [12]) t5 .nil)))
          refine wpAny_BinOp (rdL C rfl (wpAny_Constant_int (mod_int' (by decide) ?_)))
          rw [fmodp _ (by decide)]
          refine ⟨_, _, _, rfl, rfl, typeT C (.head _), getT (z := S (whites.getD (x / 9 % 3).toNat [])) C (.head _) (by omega) (by omega) (getD_get (ls := whites) r3.1 r3.2) fun t6 => ?_⟩
          refine appendT C (.tail (.tail .head)) (by rw [List.length_map]; omega) (fun h' C => ?_)
          show wpAny _ _ (execs _ _) _ _ _
          have e1 : bb.map S ++ [S (whites.getD (x / 9 % 3).toNat [])] = (bodyA bb x).map S := by rw [hA, List.map_append]; rfl
          rw [e1] at C
          exact wpAny_execs_nil ⟨rfl, _, _, _, (C.drop (List.sublist_cons_self _ _)).sub ⟨rfl, rfl, rfl, rfl, rfl, trivial⟩, O⟩
        · rw [if_neg (by simpa using h8)]
          refine wpAny_execs_cons (wpAny_If (isTrue_and (wpAny_isTrue_Compare1 (rdL C rfl (wpAny_Constant_int (PySem.P.eq_int (wpAny_truthy_bool ?_)))))))
          by_cases h7 : x % 9 = 7
          · rw [if_pos (by rw [h7]; rfl)]
            refine isTrue_and (wpAny_isTrue_Compare1 (rdL C rfl (nilL C fun be h' C => neNilT (C.hasT (.tail _ (.tail _ (.head _)))) (C.hasT (.head _)) (by show A.units + 3 < _; omega) (wpAny_truthy_bool ?_))))
            have C := C.drop (List.sublist_cons_self _ _)
            by_cases hbe : bb = []
            · rw [if_neg (by rw [hbe]; decide), if_neg Bool.false_ne_true]
              have hA : bodyA bb x = bb := by unfold bodyA; rw [if_neg h8, if_neg (fun hx => hx.2 hbe)]
              rw [hA]
              exact wpAny_execs_nil (wpAny_execs_nil ⟨rfl, _, _, _, C.sub ⟨rfl, rfl, rfl, rfl, rfl, trivial⟩, O⟩)
            · have hne : (!(bb.map S).isEmpty) = true := by cases bb with | nil => exact absurd rfl hbe | cons c r => rfl
              rw [if_pos hne]
              refine isTrue_and_nil ?_
              rw [if_pos rfl]
              obtain ⟨zs, z, hz⟩ : ∃ zs z, bb = zs ++ [z] := ⟨bb.dropLast, bb.getLast hbe, (List.dropLast_concat_getLast hbe).symm⟩
              have hA : bodyA bb x = zs ++ [z ++ [32, 9]] := by unfold bodyA; rw [if_neg h8, if_pos ⟨h7, hbe⟩, hz, onLast_snoc]
              have hzl : z.length ≤ 800 := by
                have : wtL bb = wtL zs + wtL [z] := by rw [hz, wtL_app]
                rw [wtL_cons, wtL_nil] at this; omega
              rw [hz, List.map_append] at C
              refine wpAny_execs_cons (wpAny_Assign_Subscript (wpAny_BinOp (subL (rdL C rfl (wpAny_UnaryOp (wpAny_Constant_int (PySem.P.neg_int ?_)))))))
              refine ⟨D, _, _, rfl, rfl, typeT C (.tail _ (.head _)), getLastT C (.tail _ (.head _)) fun t7 => constS (x := [32, 9]) (by decide +kernel) fun t8 k8 => addS (fun t9 k9 => rdL C rfl (wpAny_UnaryOp (wpAny_Constant_int (PySem.P.neg_int ?_)))) (by simp only [List.length_cons, List.length_nil]; omega)⟩
              refine setLastT C (.tail .head) fun h' C => ?_
              show wpAny _ _ (execs _ _) _ _ _
              have e1 : zs.map S ++ [S (z ++ [32, 9])] = (bodyA bb x).map S := by rw [hA, List.map_append]; rfl
              rw [e1] at C
              exact wpAny_execs_nil (wpAny_execs_nil ⟨rfl, _, _, _, C.sub ⟨rfl, rfl, rfl, rfl, rfl, trivial⟩, O⟩)
          · rw [if_neg (by simpa using h7), if_neg Bool.false_ne_true]
            have hA : bodyA bb x = bb := by unfold bodyA; rw [if_neg h8, if_neg (fun hx => h7 hx.1)]
            rw [hA]
            exact wpAny_execs_nil (wpAny_execs_nil ⟨rfl, _, _, _, C.sub ⟨rfl, rfl, rfl, rfl, rfl, trivial⟩, O⟩)
      clear C O
      rintro s₉ ⟨tr, tw, tq, C, O⟩
      generalize hbA : bodyA bb x = ba at *
      have hwts : wtL ba ≤ 803 := by omega
      have hend : ∀ (s' : Shared) (bz : List (List Nat)), bz = bodyS inds bb x → St w mg mb s.heap L [(Str.ofString "bodies", .ref D), (Str.ofString "indents", .ref bi)] [(it, isLI bn (i + 1)), (D, isT (bz.map S)), (bn, isL us)] s'.heap → SameO s s' →
          ∃ bb, St w mg mb s.heap L [(Str.ofString "bodies", .ref D), (Str.ofString "indents", .ref bi)] [(it, isLI bn (i + 1)), (D, isT (bb.map S)), (bn, isL us)] s'.heap ∧ SameO s s' ∧ bb = ((numsOf ns).take (i + 1)).foldl (bodyS inds) [] :=
        fun s' bz hbz C O => ⟨bz, C, O, hbz.trans hnext.symm⟩
      refine wpAny_execs_cons (wpAny_If (wpAny_mono (Q := fun b s' => b = decide (x % 9 ≥ 6 ∨ ba = []) ∧ St w mg mb s.heap L [(Str.ofString "way", .int (x % 9) tw), (Str.ofString "word", .str (S (wordOf x)) tq), (Str.ofString "rest", .int (x / 9) tr), (Str.ofString "bodies", .ref D), (Str.ofString "indents", .ref bi)] [(it, isLI bn (i + 1)), (D, isT (ba.map S)), (bn, isL us)] s'.heap ∧ SameO s s') (E := fun _ _ => False) ?_ ?_ fun _ _ x => x.elim))
      · refine isTrue_or (wpAny_isTrue_Compare1 (rdL C rfl (wpAny_Constant_int (PySem.P.ge_int (wpAny_truthy_bool ?_)))))
        by_cases h6 : x % 9 ≥ 6
        · rw [if_pos (decide_eq_true h6)]
          exact ⟨(decide_eq_true (.inl h6)).symm, C, O⟩
        · rw [if_neg (by simpa using h6)]
          refine isTrue_or (wpAny_isTrue_Compare1 (rdL C rfl (nilL C fun be h' C => eqNilT (C.hasT (.tail _ (.tail _ (.head _)))) (C.hasT (.head _)) (by show A.units + 3 < _; omega) (wpAny_truthy_bool ?_))))
          have C := C.drop (List.sublist_cons_self _ _)
          by_cases hbe : ba = []
          · rw [if_pos (by rw [hbe]; rfl)]
            exact ⟨(decide_eq_true (.inr hbe)).symm, C, O⟩
          · have hne : (ba.map S).isEmpty = false := by cases ba with | nil => exact absurd rfl hbe | cons c r => rfl
            rw [if_neg (by rw [hne]; exact Bool.false_ne_true)]
            refine isTrue_or_nil ?_
            exact ⟨(decide_eq_false (fun hx => hx.elim h6 hbe)).symm, C, O⟩
      clear C O
      rintro b s₁₀ ⟨rfl, C, O⟩
      have hAl' := wtL_len ba
      by_cases hcond : x % 9 ≥ 6 ∨ ba = []
      · rw [if_pos (decide_eq_true hcond)]
        have hS : bodyS inds bb x = ba ++ [inds.getD (x / 9 % 4).toNat [] ++ wordOf x] := by unfold bodyS; rw [hbA, if_pos hcond]
        have hgl := getD_len hi (x / 9 % 4).toNat
        have H1 := H.kp C.kp
        refine wpAny_execs_cons (wpAny_Expr (meth1 F.plainAttrs_list F.slot_list_append F.type_list_append (rdL C rfl ⟨typeT C (.tail _ (.head _)), dictT C (.tail _ (.head _)), sp1 (wpAny_BinOp (subL (rdL C rfl (wpAny_BinOp (rdL C rfl (wpAny_Constant_int (mod_int' (by decide) ?_)))))))⟩)))
        rw [fmodp _ (by decide)]
        refine ⟨bi, _, _, rfl, rfl, typeT' H1, getT' (z := S (inds.getD (x / 9 % 4).toNat [])) H1 (by omega) (by omega) (getD_get (ls := inds) r4.1 (by rw [hil]; exact r4.2)) fun t10 => rdL C rfl (addS (fun t11 k11 => ?_) (by omega))⟩
        refine appendT C (.tail .head) (by rw [List.length_map]; omega) (fun h' C => ?_)
        show wpAny _ _ (execs _ _) _ _ _
        have e1 : ba.map S ++ [S (inds.getD (x / 9 % 4).toNat [] ++ wordOf x)] = (bodyS inds bb x).map S := by rw [hS, List.map_append]; rfl
        rw [e1] at C
        exact wpAny_execs_nil (wpAny_execs_nil ⟨.inl rfl, hend _ _ rfl (C.sub ⟨rfl, rfl, trivial⟩) O⟩)
      · rw [if_neg (by simpa using hcond)]
        have h6 : ¬ x % 9 ≥ 6 := fun hx => hcond (.inl hx)
        have hbe : ba ≠ [] := fun hx => hcond (.inr hx)
        obtain ⟨zs, z, hz⟩ : ∃ zs z, ba = zs ++ [z] := ⟨ba.dropLast, ba.getLast hbe, (List.dropLast_concat_getLast hbe).symm⟩
        have hS : bodyS inds bb x = zs ++ [z ++ seps.getD (x % 9).toNat [] ++ wordOf x] := by unfold bodyS; rw [hbA, if_neg hcond, hz, onLast_snoc, List.append_assoc]
        have hzl : z.length ≤ 803 := by
          have : wtL ba = wtL zs + wtL [z] := by rw [hz, wtL_app]
          rw [wtL_cons, wtL_nil] at this; omega
        have hsl := getD_len (l := seps) (n := 2) (by decide) (x % 9).toNat
        rw [hz, List.map_append] at C
        refine wpAny_execs_cons (wpAny_Assign_Subscript (wpAny_BinOp (wpAny_BinOp (subL (rdL C rfl (wpAny_UnaryOp (wpAny_Constant_int (PySem.P.neg_int ?_))))))))
        refine ⟨D, _, _, rfl, rfl, typeT C (.tail _ (.head _)), getLastT C (.tail _ (.head _)) fun t7 => subL ?_⟩
        refine wpAny_List_spliced (args_cons (constS (x := [32]) (by decide +kernel) fun t3 k3 => args_cons (constS (x := [32]) (by decide +kernel) fun t4 k4 => args_cons (constS (x := [32]) (by decide +kernel) fun t5 k5 => ?_))))
        refine args_cons (constS (x := [32, 32]) (by decide +kernel) fun t12 k12 => args_cons (constS (x := [32]) (by decide +kernel) fun t13 k13 => args_cons (constS (x := [9]) (by decide +kernel) fun t14 k14 => args_nil ⟨by rw [sz16]; simp, ?_⟩)))
        have C := pushT C (StrsAre.cons (S [32]) t3 (.cons (S [32]) t4 (.cons (S [32]) t5 (.cons (S [32, 32]) t12 (.cons (S [32]) t13 (.cons (S [9]) t14 .nil))))))
        refine rdL C rfl ⟨_, _, _, rfl, rfl, typeT C (.head _), getT (z := S (seps.getD (x % 9).toNat [])) C (.head _) (by omega) (by omega) (getD_get (ls := seps) rw9.1 (by show _ < (6 : Int); omega)) fun t6 => ?_⟩
        refine addS (fun t9 k9 => rdL C rfl (addS (fun t15 k15 => rdL C rfl (wpAny_UnaryOp (wpAny_Constant_int (PySem.P.neg_int ?_)))) (by rw [List.length_append]; omega))) (by omega)
        refine setLastT C (.tail (.tail .head)) fun h' C => ?_
        show wpAny _ _ (execs _ _) _ _ _
        have e1 : zs.map S ++ [S (z ++ seps.getD (x % 9).toNat [] ++ wordOf x)] = (bodyS inds bb x).map S := by rw [hS, List.map_append]; rfl
        rw [e1] at C
        exact wpAny_execs_nil (wpAny_execs_nil ⟨.inl rfl, hend _ _ rfl ((C.drop (List.sublist_cons_self _ _)).sub ⟨rfl, rfl, trivial⟩) O⟩)
    · intro s₄ hie C O
      rw [hie, hul, List.take_length] at hbb
      have : bb = bodiesOf inds ns := hbb
      rw [this] at C
      exact ⟨rfl, (C.drop (nw' := [_]) (List.Sublist.cons₂ _ (List.nil_sublist _))).sub ⟨rfl, trivial⟩, O⟩
  · clear C O
    rintro s₃ ⟨C, O⟩
    refine wpAny_execs_cons (wpAny_Return_some (rdL C rfl ?_))
    rw [O.eq]
    exact h D _ _ C.kp (C.N _ (.head _)).2.2 (C.hasT (.head _))
end
end
end Mine
end

-- P5
section
set_option maxRecDepth 100000
set_option linter.unusedVariables false
namespace Mine
open PySem PySem.Builtin PySem.Builtin.Str PyProof.Rows

/-- no line end in what is set -/
theorem chk_mem : ∀ (m : Nat) (l : List Nat), l.length ≤ m → ∀ w ∈ chk l, ∀ c ∈ w, c ∈ l := by
  intro m
  induction m with
  | zero =>
    intro l h w hw c hc
    have : l = [] := List.length_eq_zero_iff.mp (by omega)
    subst this
    have : w = [] := by simpa [chk, chunks] using hw
    subst this; exact hc
  | succ m ih =>
    intro l h w hw c hc
    cases hd : l.dropWhile ns with
    | nil =>
      rw [chk_nil hd] at hw
      have : w = l := by simpa using hw
      subst this; exact hc
    | cons d r =>
      rw [chk_cons hd] at hw
      have hdd : sp d = true := by have := dropWhile_head hd; simpa [ns] using this
      have e : (d :: r).dropWhile sp = r.dropWhile sp := by rw [List.dropWhile_cons, hdd]; rfl
      have hl := dropWhile_length_le ns l
      rw [hd, List.length_cons] at hl
      have hl2 := dropWhile_length_le sp r
      have e1 := List.takeWhile_append_dropWhile (p := ns) (l := l)
      have e2 := List.takeWhile_append_dropWhile (p := sp) (l := d :: r)
      rw [hd] at e1
      rcases List.mem_cons.mp hw with rfl | hw
      · rw [← e1]; exact List.mem_append_left _ hc
      · rw [← e1]
        refine List.mem_append_right _ ?_
        rw [← e2]
        rcases List.mem_cons.mp hw with rfl | hw
        · exact List.mem_append_left _ hc
        · exact List.mem_append_right _ (ih _ (by rw [e]; omega) w hw c hc)
theorem rstrip_mem {l : List Nat} {c : Nat} (h : c ∈ rstripL l) : c ∈ l := by
  rw [← take_len_sub_takeWhile] at h
  exact List.mem_of_mem_take h
def NoNl (st : PSt) : Prop := (∀ l ∈ st.1, 10 ∉ l) ∧ 10 ∉ st.2
theorem stepW_nl {i1 i2 : List Nat} {lim : Int} {wd : List Nat} {wide : Bool} {st : PSt} (h2 : 10 ∉ i2) (hw : 10 ∉ wd) (h : NoNl st) : NoNl (stepW i1 i2 lim wd wide st) := by
  unfold stepW
  by_cases he : wd = []
  · rw [if_pos he]; exact h
  rw [if_neg he]
  dsimp only
  split
  · refine ⟨fun l hl => ?_, ?_⟩
    · rcases List.mem_append.mp hl with hl | hl
      · exact h.1 l hl
      · have : l = rstripL st.2 := by simpa using hl
        rw [this]; exact fun hm => h.2 (rstrip_mem hm)
    · dsimp only; split <;> simp [h2, hw]
  · refine ⟨h.1, ?_⟩
    dsimp only; have := h.2; split <;> simp [this, hw]
theorem goC_nl {i1 i2 : List Nat} {lim : Int} (h2 : 10 ∉ i2) : ∀ (ws : List (List Nat)) (st : PSt), (∀ w ∈ ws, 10 ∉ w) → NoNl st → NoNl (goC i1 i2 lim ws st)
  | [], st, _, h => h
  | [w], st, hw, h => stepW_nl h2 (hw w (by simp)) h
  | w :: sep :: r, st, hw, h => goC_nl h2 r _ (fun x hx => hw x (by simp [hx])) (stepW_nl h2 (hw w (by simp)) h)
theorem fold_nl {i1 i2 : List Nat} {lim : Int} (h2 : 10 ∉ i2) : ∀ (ls : List (List Nat)) (st : PSt), (∀ l ∈ ls, 10 ∉ l) → NoNl st → NoNl (ls.foldl (fun st l => goC i1 i2 lim (chk l) st) st)
  | [], st, _, h => h
  | l :: r, st, hl, h => fold_nl h2 r _ (fun x hx => hl x (List.mem_cons_of_mem _ hx)) (goC_nl h2 _ _ (fun w hw hm => hl l (by simp) (chk_mem _ l (Nat.le_refl _) w hw 10 hm)) h)
theorem ind_mem {l : List Nat} {c : Nat} (h : c ∈ ind l) : c ∈ l := by
  have := List.takeWhile_append_dropWhile (p := isInd) (l := l)
  rw [← this]; exact List.mem_append_left _ h
theorem mem_dw {p : List Nat → Bool} {l : List (List Nat)} {x : List Nat} (h : x ∈ l.dropWhile p) : x ∈ l := by
  have := List.takeWhile_append_dropWhile (p := p) (l := l)
  rw [← this]; exact List.mem_append_right _ h
theorem para_free {x : List (List Nat)} {lim : Int} (hx : ∃ r ∈ x, isW r = false) (hf : ∀ l ∈ x, 10 ∉ l) : ∀ l ∈ para x lim, 10 ∉ l := by
  obtain ⟨pre, l0, more, rfl, hp, h0⟩ := split_rows hx
  rw [para_eq lim hp h0]
  have h2 : 10 ∉ ind2 (ind l0) more := by
    rcases ind2_cases (ind l0) more with e | ⟨l, hl, _, e⟩
    · rw [e]; exact fun hm => hf l0 (by simp) (ind_mem hm)
    · rw [e]; exact fun hm => hf l (by simp [hl]) (ind_mem hm)
  have := fold_nl (i1 := ind l0) (lim := lim) h2 ((l0 :: more).takeWhile nW) (pre, ind l0) (fun l hl => hf l (List.mem_append_right _ (mem_tw' hl))) ⟨fun l hl => hf l (List.mem_append_left _ hl), fun hm => hf l0 (by simp) (ind_mem hm)⟩
  intro l hl
  rcases List.mem_append.mp hl with hl | hl
  · rcases List.mem_append.mp hl with hl | hl
    · exact this.1 l hl
    · rw [List.mem_singleton.mp hl]; exact fun hm => this.2 (rstrip_mem hm)
  · exact hf l (List.mem_append_right _ (mem_dw hl))
theorem para_ne {x : List (List Nat)} {lim : Int} (hx : ∃ r ∈ x, isW r = false) : para x lim ≠ [] := by
  obtain ⟨pre, l0, more, rfl, hp, h0⟩ := split_rows hx
  rw [para_eq lim hp h0]
  simp
theorem para_wt {x : List (List Nat)} {lim : Int} (hx : ∃ r ∈ x, isW r = false) (hw : wtL x ≤ 10000) (hi : ∀ l ∈ x, (ind l).length ≤ 20) : wtL (para x lim) ≤ 700000 := by
  obtain ⟨pre, l0, more, rfl, hp, h0⟩ := split_rows hx
  rw [para_eq lim hp h0]
  have hi1 := hi l0 (by simp)
  have hi2 : (ind2 (ind l0) more).length ≤ 20 := by
    rcases ind2_cases (ind l0) more with e | ⟨l, hl, _, e⟩
    · rw [e]; exact hi1
    · rw [e]; exact hi l (by simp [hl])
  have h1 := fold_wt (ind l0) (ind2 (ind l0) more) lim ((l0 :: more).takeWhile nW) (pre, ind l0)
  rw [wtL_app] at hw
  have e1 : wtL (l0 :: more) = wtL ((l0 :: more).takeWhile nW) + wtL ((l0 :: more).dropWhile nW) := by rw [← wtL_app, List.takeWhile_append_dropWhile]
  have h2 := sumL_wt ((l0 :: more).takeWhile nW)
  have h3 : ((ind2 (ind l0) more).length + 4) * sumL ((l0 :: more).takeWhile nW) ≤ 24 * 10000 := Nat.mul_le_mul (by omega) (by omega)
  have h4 : wt (pre, ind l0) = wtL pre + (ind l0).length := rfl
  generalize ((l0 :: more).takeWhile nW).foldl (fun st l => goC (ind l0) (ind2 (ind l0) more) lim (chk l) st) (pre, ind l0) = fin at *
  have h5 := rstripL_len fin.2
  rw [wtL_app, wtL_app, wtL_cons, wtL_nil]
  have h6 : wt fin = wtL fin.1 + fin.2.length := rfl
  omega

/-- the last row of what is set: more than one row if it is empty -/
theorem para_last {x : List (List Nat)} {lim : Int} (hx : ∃ r ∈ x, isW r = false) {zs : List (List Nat)} (h : para x lim = zs ++ [[]]) : zs ≠ [] := by
  rintro rfl
  have hs : ∃ r ∈ para x lim, isW r = false := by
    obtain ⟨pre, l0, more, rfl, hp, h0⟩ := split_rows hx
    rw [para_eq lim hp h0]
    have hN := fold_hasN (i1 := ind l0) (i2 := ind2 (ind l0) more) (lim := lim) ((l0 :: more).takeWhile nW) (pre, ind l0) (fun l hl => tw_all hl) (.inl (by rw [List.takeWhile_cons, show nW l0 = true from by simp [h0]]; simp))
    generalize ((l0 :: more).takeWhile nW).foldl (fun st l => goC (ind l0) (ind2 (ind l0) more) lim (chk l) st) (pre, ind l0) = fin at *
    refine ⟨rstripL fin.2, by simp, ?_⟩
    obtain ⟨c, hc, hsc⟩ := hN
    cases hw : isW (rstripL fin.2) with
    | false => rfl
    | true =>
      exfalso
      -- a row stripped bears its last sign that is not white
      have hne := rstrip_ne ⟨c, hc, hsc⟩
      unfold rstripL at hne hw
      cases hd : fin.2.reverse.dropWhile sp with
      | nil => rw [hd] at hne; exact hne rfl
      | cons a r =>
        have := dropWhile_head hd
        rw [hd] at hw
        have h9 := List.all_eq_true.mp hw a (by simp)
        rw [this] at h9; cases h9
  rw [h] at hs
  obtain ⟨r, hr, hrw⟩ := hs
  have : r = [] := by simpa using hr
  subst this; cases hrw

/-- runs of signs that are not white -/
def runs9 : Nat → List Nat → Prop
  | k, [] => k ≤ 9
  | k, c :: r => if sp c = true then k ≤ 9 ∧ runs9 0 r else runs9 (k + 1) r
theorem runs9_word : ∀ (w : List Nat) (k : Nat) (b : List Nat), (∀ c ∈ w, sp c = false) → (runs9 k (w ++ b) ↔ runs9 (k + w.length) b)
  | [], k, b, _ => Iff.rfl
  | c :: w, k, b, h => by
    rw [List.cons_append, runs9, if_neg (by rw [h c (by simp)]; exact Bool.false_ne_true), runs9_word w (k + 1) b fun x hx => h x (List.mem_cons_of_mem _ hx), List.length_cons]
    rw [show k + 1 + w.length = k + (w.length + 1) from by omega]
theorem runs9_app : ∀ (a : List Nat) (k : Nat) {c : Nat} {b : List Nat}, sp c = true → runs9 k a → runs9 0 b → runs9 k (a ++ c :: b)
  | [], k, c, b, hc, h, hb => by show runs9 k (c :: b); rw [runs9, if_pos hc]; exact ⟨h, hb⟩
  | x :: a, k, c, b, hc, h, hb => by
    rw [List.cons_append, runs9]
    rw [runs9] at h
    split at h
    · rename_i hx; rw [if_pos hx]; exact ⟨h.1, runs9_app a 0 hc h.2 hb⟩
    · rename_i hx; rw [if_neg hx]; exact runs9_app a (k + 1) hc h hb
theorem runs9_sp : ∀ (s : List Nat) {b : List Nat}, isW s = true → runs9 0 b → runs9 0 (s ++ b)
  | [], b, _, h => h
  | c :: s, b, hs, h => by
    have : sp c = true ∧ isW s = true := by simpa [isW, List.all_cons] using hs
    rw [List.cons_append, runs9, if_pos this.1]
    exact ⟨Nat.zero_le _, runs9_sp s this.2 h⟩
theorem runs9_drop : ∀ (r : List Nat), runs9 0 r → runs9 0 (r.dropWhile sp)
  | [], h => h
  | c :: r, h => by
    rw [List.dropWhile_cons]
    rw [runs9] at h
    cases hc : sp c with
    | true => rw [hc, if_pos rfl] at h; exact runs9_drop r h.2
    | false => rw [hc] at h; simp only [Bool.false_eq_true, if_false] at h ⊢; rw [runs9, hc]; simpa using h
theorem words9_of : ∀ (m : Nat) (l : List Nat), l.length ≤ m → runs9 0 l → Words9 (chk l) := by
  intro m
  induction m with
  | zero =>
    intro l h _
    have : l = [] := List.length_eq_zero_iff.mp (by omega)
    subst this
    show ([] : List Nat).length ≤ 9; simp
  | succ m ih =>
    intro l h hr
    have e1 := List.takeWhile_append_dropWhile (p := ns) (l := l)
    have hns : ∀ c ∈ l.takeWhile ns, sp c = false := fun c hc => by have := mem_tw hc; simpa [ns] using this
    rw [← e1, runs9_word _ _ _ hns, Nat.zero_add] at hr
    cases hd : l.dropWhile ns with
    | nil =>
      rw [chk_nil hd]
      rw [hd] at hr e1
      rw [List.append_nil] at e1
      show l.length ≤ 9
      rw [← e1]; exact hr
    | cons c r =>
      rw [chk_cons hd]
      have hc : sp c = true := by have := dropWhile_head hd; simpa [ns] using this
      have e : (c :: r).dropWhile sp = r.dropWhile sp := by rw [List.dropWhile_cons, hc]; rfl
      have hl := dropWhile_length_le ns l
      rw [hd, List.length_cons] at hl
      have hl2 := dropWhile_length_le sp r
      rw [hd, runs9, if_pos hc] at hr
      exact ⟨hr.1, ih _ (by rw [e]; omega) (by rw [e]; exact runs9_drop r hr.2)⟩

/-- a row as the law builds it -/
structure GRow (inds : List (List Nat)) (r : List Nat) : Prop where
  nl : 10 ∉ r
  runs : runs9 0 r
  short : (ind r).length ≤ 3
  ind : isW r = false → ind r ∈ inds
theorem ind_app {a b : List Nat} (h : hasN a) : Mine.ind (a ++ b) = Mine.ind a := by
  induction a with
  | nil => obtain ⟨c, hc, _⟩ := h; cases hc
  | cons x a ih =>
    show (x :: (a ++ b)).takeWhile isInd = (x :: a).takeWhile isInd
    rw [List.takeWhile_cons, List.takeWhile_cons]
    cases hx : isInd x with
    | false => rfl
    | true =>
      obtain ⟨c, hc, hs⟩ := h
      rcases List.mem_cons.mp hc with rfl | hc
      · have : sp c = true := by
          have := isInd_sp (l := [c]) (fun y hy => by rw [List.mem_singleton.mp hy]; exact hx)
          simpa [isW] using this
        rw [this] at hs; cases hs
      · have := ih ⟨c, hc, hs⟩
        show x :: Mine.ind (a ++ b) = x :: Mine.ind a
        rw [this]
theorem ind_word {i wd : List Nat} (hi : ∀ c ∈ i, isInd c = true) (hn : wd ≠ []) (hw : ∀ c ∈ wd, sp c = false) : Mine.ind (i ++ wd) = i := by
  induction i with
  | nil =>
    cases wd with
    | nil => exact absurd rfl hn
    | cons c r =>
      have hc := hw c (by simp)
      show (c :: r).takeWhile isInd = []
      rw [List.takeWhile_cons]
      cases hx : isInd c with
      | false => rfl
      | true =>
        have : sp c = true := by
          have := isInd_sp (l := [c]) (fun y hy => by rw [List.mem_singleton.mp hy]; exact hx)
          simpa [isW] using this
        rw [this] at hc; cases hc
  | cons c i ih =>
    show (c :: (i ++ wd)).takeWhile isInd = _
    rw [List.takeWhile_cons, hi c (by simp), if_pos rfl]
    show c :: Mine.ind (i ++ wd) = _
    rw [ih fun x hx => hi x (List.mem_cons_of_mem _ hx)]
theorem wordOf_ok (x : Int) : wordOf x ≠ [] ∧ (∀ c ∈ wordOf x, sp c = false) ∧ 10 ∉ wordOf x := by
  have habc : ∀ c ∈ abc, sp c = false ∧ c ≠ 10 := by decide
  have hm : ∀ c ∈ wordOf x, c ∈ abc := fun c hc => List.mem_of_mem_drop (List.mem_of_mem_take hc)
  refine ⟨?_, fun c hc => (habc c (hm c hc)).1, fun hc => (habc 10 (hm 10 hc)).2 rfl⟩
  intro e
  have := congrArg List.length e
  unfold wordOf at this
  have hlt : x / 9 / 9 % 18 < 18 := Int.emod_lt_of_pos _ (by decide)
  have hl : abc.length = 26 := rfl
  rw [List.length_take, List.length_drop, hl, List.length_nil] at this
  omega
theorem mem_getD {l : List (List Nat)} {k : Nat} (h : k < l.length) : l.getD k [] ∈ l := by
  rw [List.getD_eq_getElem?_getD, List.getElem?_eq_getElem h]; exact List.getElem_mem h

section
variable {inds : List (List Nat)} (hil : inds.length = 4) (hi : ∀ i ∈ inds, i.length ≤ 3 ∧ ∀ c ∈ i, isInd c = true)
theorem white_row {r : List Nat} (h : r = [] ∨ r = [32, 32] ∨ r = [12]) : GRow inds r := by
  rcases h with rfl | rfl | rfl
  · exact ⟨by decide, Nat.zero_le _, by decide, fun h => by cases h⟩
  · refine ⟨by decide, ?_, by decide, fun h => absurd h (by decide)⟩
    exact runs9_sp [32, 32] (b := []) (by decide) (Nat.zero_le _)
  · refine ⟨by decide, ?_, by decide, fun h => absurd h (by decide)⟩
    exact runs9_sp [12] (b := []) (by decide) (Nat.zero_le _)
include hi in
theorem word_row {i : List Nat} (hm : i ∈ inds) (x : Int) : GRow inds (i ++ wordOf x) ∧ isW (i ++ wordOf x) = false := by
  obtain ⟨w1, w2, w3⟩ := wordOf_ok x
  obtain ⟨i1, i2⟩ := hi i hm
  have hnw : hasN (wordOf x) := by
    cases h : wordOf x with
    | nil => exact absurd h w1
    | cons c r => exact ⟨c, by simp, w2 c (by rw [h]; simp)⟩
  have hind := ind_word i2 w1 w2
  refine ⟨⟨fun h => ?_, ?_, by rw [hind]; exact i1, fun _ => by rw [hind]; exact hm⟩, isW_app_f' hnw⟩
  · rcases List.mem_append.mp h with h | h
    · have := i2 10 h; revert this; decide
    · exact w3 h
  · refine runs9_sp i (isInd_sp i2) ?_
    have := (runs9_word (wordOf x) 0 [] w2).mpr (by rw [Nat.zero_add]; exact wordOf_len x)
    rwa [List.append_nil] at this
theorem longer_row {r : List Nat} (h : GRow inds r) (hw : isW r = false) {c : Nat} {b : List Nat} (hc : sp c = true) (hc10 : c ≠ 10) (hb : runs9 0 b) (hb10 : 10 ∉ b) : GRow inds (r ++ c :: b) ∧ isW (r ++ c :: b) = false := by
  have hN := nW_hasN hw
  refine ⟨⟨fun hm => ?_, runs9_app r 0 hc h.runs hb, by rw [ind_app hN]; exact h.short, fun _ => by rw [ind_app hN]; exact h.ind hw⟩, isW_app_f hN⟩
  rcases List.mem_append.mp hm with hm | hm
  · exact h.nl hm
  · rcases List.mem_cons.mp hm with e | hm
    · exact hc10 e.symm
    · exact hb10 hm
/-- what holds of the rows built so far -/
def BOk (inds : List (List Nat)) (b : List (List Nat)) : Prop := (∀ r ∈ b, GRow inds r) ∧ (b = [] ∨ ∃ zs z, b = zs ++ [z] ∧ isW z = false)
include hil hi in
theorem bodyS_ok {b : List (List Nat)} (x : Int) (h : BOk inds b) : BOk inds (bodyS inds b x) ∧ bodyS inds b x ≠ [] := by
  have r3 : 0 ≤ x / 9 % 3 ∧ x / 9 % 3 < 3 := ⟨Int.emod_nonneg _ (by decide), Int.emod_lt_of_pos _ (by decide)⟩
  have r4 : 0 ≤ x / 9 % 4 ∧ x / 9 % 4 < 4 := ⟨Int.emod_nonneg _ (by decide), Int.emod_lt_of_pos _ (by decide)⟩
  have rw9 : 0 ≤ x % 9 ∧ x % 9 < 9 := ⟨Int.emod_nonneg _ (by decide), Int.emod_lt_of_pos _ (by decide)⟩
  obtain ⟨w1, w2, w3⟩ := wordOf_ok x
  have hA : (∀ r ∈ bodyA b x, GRow inds r) ∧ (x % 9 < 6 → bodyA b x = b) := by
    unfold bodyA
    split
    · rename_i h8
      refine ⟨fun r hr => ?_, fun h => by omega⟩
      rcases List.mem_append.mp hr with hr | hr
      · exact h.1 r hr
      · have e : r = _ := List.mem_singleton.mp hr
        subst e
        refine white_row ?_
        have hm : whites.getD (x / 9 % 3).toNat [] ∈ whites := mem_getD (by show _ < 3; omega)
        simpa [whites] using hm
    · split
      · rename_i h7
        refine ⟨fun r hr => ?_, fun h => by omega⟩
        obtain ⟨zs, z, rfl, hz⟩ := h.2.resolve_left h7.2
        rw [onLast_snoc] at hr
        rcases List.mem_append.mp hr with hr | hr
        · exact h.1 r (List.mem_append_left _ hr)
        · have e : r = _ := List.mem_singleton.mp hr
          subst e
          exact (longer_row (h.1 z (by simp)) hz sp32 (by decide) (b := [9]) (by rw [runs9, if_pos sp9]; exact ⟨Nat.zero_le _, Nat.zero_le _⟩) (by decide)).1
      · exact ⟨h.1, fun _ => rfl⟩
  unfold bodyS
  split
  · have hw := word_row hi (mem_getD (l := inds) (k := (x / 9 % 4).toNat) (by rw [hil]; omega)) x
    refine ⟨⟨fun r hr => ?_, .inr ⟨_, _, rfl, hw.2⟩⟩, by simp⟩
    rcases List.mem_append.mp hr with hr | hr
    · exact hA.1 r hr
    · rw [List.mem_singleton.mp hr]; exact hw.1
  · rename_i hc
    have h6 : x % 9 < 6 := by
      refine Int.not_le.mp fun h => hc (.inl h)
    rw [hA.2 h6] at hc ⊢
    obtain ⟨zs, z, rfl, hz⟩ := h.2.resolve_left fun e => hc (.inr e)
    rw [onLast_snoc]
    have hs : seps.getD (x % 9).toNat [] ∈ seps := mem_getD (by show _ < 6; omega)
    have hs2 : ∀ q ∈ seps, ∃ c b, q = c :: b ∧ sp c = true ∧ c ≠ 10 ∧ isW b = true ∧ 10 ∉ b := by
      intro q hq
      have : q = [32] ∨ q = [32, 32] ∨ q = [9] := by
        simp [seps] at hq
        rcases hq with h | h | h | h | h | h <;> simp [h]
      rcases this with rfl | rfl | rfl
      · exact ⟨32, [], rfl, sp32, by decide, rfl, by decide⟩
      · exact ⟨32, [32], rfl, sp32, by decide, by decide, by decide⟩
      · exact ⟨9, [], rfl, sp9, by decide, rfl, by decide⟩
    obtain ⟨c, bb, e, s1, s2, s3, s4⟩ := hs2 _ hs
    rw [e, List.cons_append]
    have hl := longer_row (inds := inds) (h.1 z (by simp)) hz s1 s2 (b := bb ++ wordOf x) (runs9_sp bb s3 (by
      have := (runs9_word (wordOf x) 0 [] w2).mpr (by rw [Nat.zero_add]; exact wordOf_len x)
      rwa [List.append_nil] at this)) (fun hm => (List.mem_append.mp hm).elim s4 w3)
    refine ⟨⟨fun r hr => ?_, .inr ⟨_, _, rfl, hl.2⟩⟩, by simp⟩
    rcases List.mem_append.mp hr with hr | hr
    · exact h.1 r (List.mem_append_left _ hr)
    · rw [List.mem_singleton.mp hr]; exact hl.1
include hil hi in
theorem fold_ok : ∀ (xs : List Int) (b : List (List Nat)), BOk inds b → BOk inds (xs.foldl (bodyS inds) b) ∧ (xs ≠ [] ∨ b ≠ [] → xs.foldl (bodyS inds) b ≠ [])
  | [], b, h => ⟨h, fun hc => hc.resolve_left (fun e => e rfl)⟩
  | x :: xs, b, h => by
    obtain ⟨h1, h2⟩ := bodyS_ok hil hi x h
    obtain ⟨i1, i2⟩ := fold_ok xs _ h1
    exact ⟨i1, fun _ => i2 (.inr h2)⟩
theorem numsOf_ne (ns : List Int) : numsOf ns ≠ [] := by
  unfold numsOf
  split
  · rename_i h
    intro e
    have := congrArg List.length e
    rw [List.length_take, List.length_drop, List.length_nil] at this
    omega
  · decide
include hil hi in
theorem bodies_ok (ns : List Int) : (∀ r ∈ bodiesOf inds ns, GRow inds r) ∧ ∃ r ∈ bodiesOf inds ns, isW r = false := by
  obtain ⟨h1, h2⟩ := fold_ok hil hi (numsOf ns) [] ⟨fun _ h => (nomatch h), .inl rfl⟩
  refine ⟨h1.1, ?_⟩
  obtain ⟨zs, z, e, hz⟩ := h1.2.resolve_left (h2 (.inl (numsOf_ne ns)))
  exact ⟨z, by show z ∈ (numsOf ns).foldl (bodyS inds) []; rw [e]; simp, hz⟩
end
end Mine
end

-- W14
section
set_option maxRecDepth 100000
set_option linter.unusedVariables false
set_option Elab.async false
namespace Mine
open PySem PySem.W PyProof.Rows PySem.Calls PySem.Builtin PySem.Builtin.Str

noncomputable section
theorem paired_range {g : Nat → List Nat} : ∀ {N k : Nat} {vs ys : List Value}, vs.length = N → (∀ (j : Nat) (v : Value), vs[j]? = some v → ∃ t : Tok, v = Value.int ((k + j : Nat) : Int) t) → Paired (fun (v y : Value) => ∀ (i : Nat) (t : Tok), v = Value.int (i : Int) t → ∃ u : Tok, y = Value.str (S (g i)) u) (vs.filter fun _ => true) ys →
    StrsAre ys (((List.range' k N).map g).map S)
  | 0, k, [], ys, _, _, h => by cases h; exact .nil
  | N + 1, k, v :: vs, ys, hl, hP, h => by
    rw [List.filter_cons_of_pos rfl] at h
    cases h with
    | cons h1 h2 =>
      obtain ⟨t, rfl⟩ := hP 0 v rfl
      obtain ⟨u, rfl⟩ := h1 (k + 0) t rfl
      rw [List.range'_succ]
      refine .cons _ u (paired_range (k := k + 1) (by simpa using hl) (fun j w hj => ?_) h2)
      obtain ⟨t', e⟩ := hP (j + 1) w (by simpa using hj)
      exact ⟨t', by rw [e]; congr 2; omega⟩
section
variable {prog : Program} {w : World} {mg mb : Str → Option Value} {A : Around} {E : Value → Shared → Prop} {s s₀ : Shared} {h₀ : Heap} {L a : Addr} {l : List (Str × Value)} {nw nw' : List (Addr × Shp)} {cn : Str} {cs : Scope} {ccd : Value} {cel : List (Str × Addr)} {env : Env}
/-- a list of texts made over a range -/
theorem lcR {g : Nat → List Nat} {N : Nat} {elt iter : Expr} {x : Str} {px pos : Pos} {scope : Scope} {cl : List (Str × Addr)} {Q : Value → Shared → Prop} (hh : A.handled = none)
    (hclos : closureFor scope env = pure cl) (hcell : ∀ y ∈ scope.names, y.2 ≠ .cell) (hkind : scope.kind = .function)
    (hnames : ∀ y ∈ scope.names, y.2 = .local → scope.names.lookup y.1 = some .local) (hx : scope.names.lookup x = some .local)
    (h : wpAny (model prog w) A (eval iter env) (fun xv s₁ => ∃ r e t u z l nw, xv = .ref r ∧ IsRange s₁.heap r 0 e 1 t u z ∧ Builtin.Range.small 0 e 1 = true ∧ Builtin.Range.rangeSize 0 e 1 = (N : Int) ∧ St w mg mb h₀ L l nw s₁.heap ∧ N ≤ 16777216 ∧
      (∀ C (i : Nat) t s₃ m₃ E', i < N → s₃.heap.Ns C m₃ → m₃ x = some (.int i t) → Kp s₁.heap s₃.heap →
        wpAny (model prog w) A (eval elt (compEnvC scope cl C env)) (fun y s₄ => (∃ u, y = .str (S (g i)) u) ∧ Keeps s₃ s₄) E' s₃) ∧
      (∀ D h' tk, St w mg mb h₀ L l ((D, isT (((List.range N).map g).map S)) :: nw) h' → Kp s₁.heap h' → Q (.ref D) { s₁ with heap := h', toks := tk })) E s)
    (hs : ∀ x, foldedSetIterable iter env x = pure x := by intro _; rfl) :
    wpAny (model prog w) A (eval (.ListComp elt [⟨.Name x px, iter, [], 0⟩] scope pos) env) Q E s := by
  refine wpAny_ListComp_free (fun _ => true) (fun v y => ∀ (i : Nat) t, v = .int (i : Int) t → ∃ u, y = .str (S (g i)) u) hclos hcell hkind hnames hx (wpAny_mono h (fun xv s₁ h₁ => ?_) fun _ _ x => x) hs
  obtain ⟨r, e, t, u, z, l, nw, rfl, hr, hsm, hsize, C, hsz, helt, hQ⟩ := h₁
  have W := Walks.range (prog := prog) (w := w) hh s₁.heap.objs.size 0 1 N
  have W' := W.bound
  have hnotin : ∀ (c : Addr) (o : Obj), s₁.heap.get? c = some o → c ∉ [s₁.heap.objs.size] := by
    intro c o ec hc
    rcases List.mem_cons.mp hc with rfl | hc
    · exact absurd (Heap.lt_size ec) (Nat.lt_irrefl _)
    · cases hc
  refine wpAny_pyIter_range hr hsm ⟨s₁.heap.objs.size, [s₁.heap.objs.size], [s₁.heap.objs.size], N, _, _, rfl, W', by rw [sz16]; exact hsz, ?_, ?_, ⟨?_, ?_⟩, ?_⟩
  · rw [hsize]
    show IsRangeIter _ _ (0 + ((0 : Nat) : Int) * 1) ((N : Int) - ((0 : Nat) : Int)) 1
    simp only [Int.natCast_zero, Int.zero_mul, Int.add_zero, Int.sub_zero]
    exact Heap.get?_push_size _ rfl
  · intro c hc
    show c < (s₁.heap.push _).objs.size
    rw [Heap.size_push]
    rcases List.mem_cons.mp hc with rfl | hc
    · exact Nat.lt_succ_self _
    · cases hc
  · intro C i v s₃ m₃ E' _ hP hn hm hk htk
    rw [List.forIn_nil]
    exact wpAny_pure ⟨rfl, ⟨s₃.heap, s₃.toks, rfl, fun _ _ e => e⟩⟩
  · intro C i v s₃ m₃ E' _ hP _ hn hm hk htk
    obtain ⟨hi, t, rfl⟩ := hP
    have e9 : (0 : Int) + (i : Int) * 1 = (i : Int) := by omega
    rw [e9] at hm ⊢
    refine wpAny_mono (helt C i t s₃ m₃ E' hi hn hm (fun c o ec => hk c o (hnotin c o ec) (Heap.get?_push_of_some _ ec))) (fun y s₄ h₄ => ⟨?_, h₄.2⟩) fun _ _ x => x
    intro i' t' e
    injection e with e1 e2
    have : i' = i := by omega
    subst this
    exact h₄.1
  · intro D h' tk ys vs' hD hlD hpD hlen hP hF hk
    have hkp : Kp s₁.heap h' := fun c o ec => hk c o (hnotin c o ec) (Heap.get?_push_of_some _ ec)
    obtain ⟨n', hpo⟩ := hpD
    have hD' : s₁.heap.get? D = none := by
      cases ed : s₁.heap.get? D with
      | none => rfl
      | some o' => have := Heap.get?_push_of_some { cls := .type "range_iterator", data := .fields #[rawInt 0, rawInt (Builtin.Range.rangeSize 0 e 1), rawInt 1] } ed; rw [hD] at this; cases this
    refine hQ D h' tk (C.add hkp hD' hpo ⟨ys.toList, ?_, n', by simp⟩) hkp
    rw [List.range_eq_range']
    refine paired_range hlen (fun j v hj => ?_) hF
    obtain ⟨_, t, rfl⟩ := hP j v hj
    exact ⟨t, by congr 1; omega⟩
/-- two lists of texts, one behind the other -/
theorem addL {b c : Addr} {ts ts' : List Str} {Q : Value → Shared → Prop} (C : St w mg mb h₀ L l nw s.heap) (hb : HasT s.heap b ts) (hc : HasT s.heap c ts') (hsz : ts.length + ts'.length ≤ 16777216) (h : ∀ d h', St w mg mb h₀ L l ((d, isT (ts ++ ts')) :: nw) h' → Q (.ref d) { s with heap := h' }) :
    wpAny (model prog w) A (binaryOp .Add (.ref b) (.ref c)) Q E s := by
  obtain ⟨o, ho, vs, hv, n, rfl⟩ := hb
  obtain ⟨o2, ho2, vs2, hv2, n2, rfl⟩ := hc
  obtain ⟨m, news, F, N, _, V⟩ := C.via
  refine add_lists F N ⟨_, ho, rfl, n, rfl⟩ ⟨_, ho2, rfl, n2, rfl⟩ (fun h' F' N' => h _ h' (V h' _ _ F' N' ⟨_, strsAre_app hv hv2, _, rfl⟩)) ?_
  rw [hv.length, hv2.length, sz16]; exact hsz
theorem HasT.isNil {h : Heap} {b : Addr} (H : HasT h b []) : h.IsList b (([] : List Value).toArray) := by
  obtain ⟨o, ho, vs, hv, n, rfl⟩ := H
  cases hv
  exact ⟨_, ho, rfl, n, rfl⟩
end

def headers : List (List Nat) := [[35], [32, 32, 32, 32], [47, 47], [35, 32], [9, 35, 35], [32, 32, 32, 32, 35, 35, 35, 35], [45, 42, 45, 32], [9]]
def sufs : List (List (List Nat)) := [[], [[]], [[32, 32]]]
def indsOf (n : Nat) : List (List Nat) := if n = 8 then [[], [32], [9], [32, 9]] else [[], [32], [32, 32, 32], [32, 32]]
def hdOf (h : Int) : List Nat := headers.getD (h % 8).toNat []
def limOf (h : Int) : Int := h / 8 % 64 - 4
def bodOf (ns : List Int) : List (List Nat) := bodiesOf (indsOf (hdOf (ns.headD 0)).length) ns ++ sufs.getD (ns.headD 0 / 512 % 3).toNat []

theorem hd_ok (h : Int) : hdOf h ∈ headers := by
  have h0 : 0 ≤ h % 8 := Int.emod_nonneg _ (by decide)
  have h1 : h % 8 < 8 := Int.emod_lt_of_pos _ (by decide)
  exact mem_getD (by show _ < 8; omega)
theorem hd_facts : ∀ p ∈ headers, 1 ≤ p.length ∧ p.length ≤ 8 ∧ 10 ∉ p := by decide
theorem inds_facts (n : Nat) : (indsOf n).length = 4 ∧ (∀ i ∈ indsOf n, i.length ≤ 3 ∧ ∀ c ∈ i, isInd c = true) ∧ (n = 8 ∨ ∀ i ∈ indsOf n, 9 ∉ i) := by
  unfold indsOf
  split
  · rename_i h; exact ⟨rfl, by decide, .inl h⟩
  · exact ⟨rfl, by decide, .inr (by decide)⟩
theorem suf_ok (h : Int) : ∀ r ∈ sufs.getD (h / 512 % 3).toNat [], r = [] ∨ r = [32, 32] ∨ r = [12] := by
  have h0 : 0 ≤ h / 512 % 3 := Int.emod_nonneg _ (by decide)
  have h1 : h / 512 % 3 < 3 := Int.emod_lt_of_pos _ (by decide)
  have hk : (h / 512 % 3).toNat = 0 ∨ (h / 512 % 3).toNat = 1 ∨ (h / 512 % 3).toNat = 2 := by omega
  intro r hr
  rcases hk with e | e | e <;> rw [e] at hr
  · cases hr
  · exact .inl (List.mem_singleton.mp hr)
  · exact .inr (.inl (List.mem_singleton.mp hr))
theorem suf_wt (h : Int) : wtL (sufs.getD (h / 512 % 3).toNat []) ≤ 3 := by
  have h0 : 0 ≤ h / 512 % 3 := Int.emod_nonneg _ (by decide)
  have h1 : h / 512 % 3 < 3 := Int.emod_lt_of_pos _ (by decide)
  have hk : (h / 512 % 3).toNat = 0 ∨ (h / 512 % 3).toNat = 1 ∨ (h / 512 % 3).toNat = 2 := by omega
  rcases hk with e | e | e <;> rw [e] <;> decide

/-- all that the law asks, in plain words -/
structure Plain (ns : List Int) (hdr : List Nat) (lim : Int) (bod : List (List Nat)) : Prop where
  n1 : 1 ≤ hdr.length
  n8 : hdr.length ≤ 8
  hnl : 10 ∉ hdr
  ne : bod ≠ []
  nl : ∀ r ∈ bod, 10 ∉ r
  wt : wtL bod ≤ 810
  some : ∃ r ∈ bod, isW r = false
  ind : ∀ r ∈ bod, (ind r).length ≤ 3
  shift : para (rowsR (bl hdr.length) bod) (max lim (20 + hdr.length)) = rowsR (bl hdr.length) (para bod (max (lim - hdr.length) 20))
  set : SetOk (para (rowsR (bl hdr.length) bod) (max lim (20 + hdr.length))) (max lim (20 + hdr.length))
theorem bl_width : ∀ i ∈ indsOf 8, width (bl 8 ++ i) ≤ 16 := by decide
theorem words9_bl {n : Nat} {r : List Nat} (h : runs9 0 r) : Words9 (chk (bl n ++ r)) := words9_of _ _ (Nat.le_refl _) (runs9_sp (bl n) (bl_all n) h)
theorem plain_ok (ns : List Int) : Plain ns (hdOf (ns.headD 0)) (limOf (ns.headD 0)) (bodOf ns) := by
  generalize hh : ns.headD 0 = h
  obtain ⟨a1, a2, a3⟩ := hd_facts _ (hd_ok h)
  obtain ⟨b1, b2, b3⟩ := inds_facts (hdOf h).length
  obtain ⟨c1, c2⟩ := bodies_ok b1 b2 ns
  have hbod : bodOf ns = bodiesOf (indsOf (hdOf h).length) ns ++ sufs.getD (h / 512 % 3).toNat [] := by unfold bodOf; rw [hh]
  have hrow : ∀ r ∈ bodOf ns, GRow (indsOf (hdOf h).length) r := by
    rw [hbod]
    intro r hr
    rcases List.mem_append.mp hr with hr | hr
    · exact c1 r hr
    · exact white_row (suf_ok h r hr)
  have hsome : ∃ r ∈ bodOf ns, isW r = false := by
    obtain ⟨r, hr, hw⟩ := c2
    exact ⟨r, by rw [hbod]; exact List.mem_append_left _ hr, hw⟩
  have hne : bodOf ns ≠ [] := by rintro e; obtain ⟨r, hr, _⟩ := hsome; rw [e] at hr; cases hr
  have hWeq : max (limOf h) (20 + (hdOf h).length) = max (limOf h - (hdOf h).length) 20 + (hdOf h).length := by omega
  refine ⟨a1, a2, a3, hne, fun r hr => (hrow r hr).nl, ?_, hsome, fun r hr => (hrow r hr).short, ?_, ?_⟩
  · rw [hbod, wtL_app]
    have e1 := fold_bwt (fun i hi => (b2 i hi).1) (numsOf ns) []
    have e2 := numsOf_len ns
    have e3 := suf_wt h
    have e4 : wtL (bodiesOf (indsOf (hdOf h).length) ns) ≤ wtL [] + 20 * (numsOf ns).length := e1
    rw [wtL_nil] at e4
    omega
  · rw [hWeq]
    refine para_shift (by omega) hsome ?_
    rcases b3 with e | e
    · exact .inl e
    · exact .inr fun r hr hw => e _ ((hrow r hr).ind hw)
  · refine para_set ?_ ?_
    · obtain ⟨r, hr, hw⟩ := hsome
      obtain ⟨x, y, e⟩ := List.append_of_mem hr
      have hrne : r ≠ [] := by rintro rfl; cases hw
      refine ⟨bl (hdOf h).length ++ r, ?_, by rw [isW_bl]; exact hw⟩
      rw [e, rowsR_app _ _ _ (by simp), rowsR_cons' _ _ _ hrne]
      exact List.mem_append_right _ List.mem_cons_self
    · intro r' hr' hw'
      rcases rowsR_mem hr' with rfl | ⟨r, hr, rfl⟩
      · cases hw'
      rw [isW_bl] at hw'
      have g := hrow r hr
      refine ⟨words9_bl g.runs, ?_⟩
      rw [ind_bl]
      have hi := g.ind hw'
      rcases b3 with e | e
      · rw [e] at hi ⊢
        have := bl_width _ hi
        omega
      · have h3 := (b2 _ hi).1
        have h9 : width (bl (hdOf h).length ++ ind r) = (hdOf h).length + (ind r).length := by
          show (xtab 0 _).length = _
          rw [xtab_none _ _ (fun hm => (List.mem_append.mp hm).elim (fun hm => by have := List.eq_of_mem_replicate hm; omega) (e _ hi)), List.length_append, List.length_replicate]
        rw [h9]
        omega
end
end Mine
end

-- P6
section
set_option maxRecDepth 100000
set_option linter.unusedVariables false
set_option Elab.async false
namespace Mine
open PySem PySem.W PyProof.Rows PySem.Calls PySem.Builtin PySem.Builtin.Str

noncomputable section
/-- the block's rows -/
def blkR (hdr : List Nat) (bod : List (List Nat)) (k : Nat) : List Nat := if bod.getD k [] ≠ [] ∨ k % 2 = 1 then hdr ++ bod.getD k [] else []
def blk (hdr : List Nat) (bod : List (List Nat)) : List (List Nat) := (List.range bod.length).map (blkR hdr bod)
theorem blk_drop (hdr : List Nat) (bod : List (List Nat)) : (blk hdr bod).map (List.drop hdr.length) = bod := by
  apply List.ext_getElem?
  intro i
  unfold blk
  rw [List.map_map, List.getElem?_map]
  by_cases h : i < bod.length
  · rw [List.getElem?_range h, List.getElem?_eq_getElem h]
    show some ((blkR hdr bod i).drop hdr.length) = _
    have e : bod.getD i [] = bod[i] := by rw [List.getD_eq_getElem?_getD, List.getElem?_eq_getElem h]; rfl
    unfold blkR
    rw [e]
    split
    · rw [List.drop_left]
    · rename_i hc
      have : bod[i] = [] := Classical.byContradiction fun h => hc (.inl h)
      rw [this]; simp
  · rw [List.getElem?_eq_none (l := bod) (by omega), List.getElem?_eq_none (by rw [List.length_range]; omega)]; rfl
theorem blk_ne {hdr : List Nat} {bod : List (List Nat)} (h : bod ≠ []) : blk hdr bod ≠ [] := by
  intro e
  have := congrArg List.length e
  unfold blk at this
  rw [List.length_map, List.length_range] at this
  exact h (List.length_eq_zero_iff.mp this)
theorem blk_mem {hdr : List Nat} {bod : List (List Nat)} {r : List Nat} (h : r ∈ blk hdr bod) : r = [] ∨ ∃ q ∈ bod, r = hdr ++ q := by
  obtain ⟨k, hk, rfl⟩ := List.mem_map.mp h
  have hk := List.mem_range.mp hk
  unfold blkR
  split
  · exact .inr ⟨_, mem_getD hk, rfl⟩
  · exact .inl rfl
theorem blk_wt {hdr : List Nat} {bod : List (List Nat)} (hn : hdr.length ≤ 8) (hw : wtL bod ≤ 810) : wtL (blk hdr bod) ≤ 10000 := by
  have h1 : wtL (blk hdr bod) ≤ wtL ((blk hdr bod).map (List.drop hdr.length)) + hdr.length * (blk hdr bod).length := by
    generalize blk hdr bod = x
    induction x with
    | nil => exact Nat.zero_le _
    | cons r x ih => rw [List.map_cons, wtL_cons, wtL_cons, List.length_cons, List.length_drop, Nat.mul_succ]; omega
  rw [blk_drop] at h1
  have h2 : (blk hdr bod).length = bod.length := by unfold blk; rw [List.length_map, List.length_range]
  have h3 := wtL_len bod
  rw [h2] at h1
  have h4 : hdr.length * bod.length ≤ 8 * 810 := Nat.mul_le_mul hn (by omega)
  omega
theorem joinL_snoc_nil : ∀ {x : List (List Nat)}, x ≠ [] → joinL (x ++ [[]]) = joinL x ++ [10]
  | [], h => absurd rfl h
  | [l], _ => rfl
  | l :: k :: r, _ => by
    show l ++ 10 :: joinL ((k :: r) ++ [[]]) = (l ++ 10 :: joinL (k :: r)) ++ [10]
    rw [joinL_snoc_nil (by simp)]; simp
theorem commT_rows {hdr : List Nat} {nd : List (List Nat)} (h0 : nd ≠ []) (hl : ∀ zs, nd = zs ++ [[]] → zs ≠ []) : commT hdr nd = joinL (rowsR hdr nd) := by
  obtain ⟨zs, z, hz⟩ : ∃ zs z, nd = zs ++ [z] := ⟨nd.dropLast, nd.getLast h0, (List.dropLast_concat_getLast h0).symm⟩
  unfold commT
  rw [hz, List.getLast?_concat, rowsR_snoc]
  cases z with
  | nil =>
    rw [List.dropLast_concat, if_pos rfl, joinL_snoc_nil]
    simpa using hl zs hz
  | cons c r =>
    rw [if_neg (by simp), List.map_append]; rfl
theorem rowsR_check {hdr : List Nat} : ∀ {x : List (List Nat)} {k : Nat} (h : k < (rowsR hdr x).length), (rowsR hdr x)[k].take hdr.length = hdr ∨ ((rowsR hdr x)[k] = [] ∧ k + 1 = (rowsR hdr x).length)
  | [], k, h => absurd h (Nat.not_lt_zero _)
  | [l], k, h => by
    by_cases hl : l = []
    · have e : rowsR hdr [l] = [[]] := by show (if l = [] then _ else _) = _; rw [if_pos hl]
      simp only [e] at h ⊢
      have : k = 0 := by simpa using h
      subst this
      exact .inr ⟨rfl, rfl⟩
    · have e : rowsR hdr [l] = [hdr ++ l] := by show (if l = [] then _ else _) = _; rw [if_neg hl]
      simp only [e] at h ⊢
      have : k = 0 := by simpa using h
      subst this
      exact .inl (by simp)
  | l :: m :: r, 0, h => .inl (by show (hdr ++ l).take hdr.length = hdr; simp)
  | l :: m :: r, k + 1, h => by
    have := rowsR_check (hdr := hdr) (x := m :: r) (k := k) (by simpa [rowsR] using h)
    rcases this with h1 | ⟨h1, h2⟩
    · exact .inl h1
    · exact .inr ⟨h1, by show k + 1 + 1 = (rowsR hdr (m :: r)).length + 1; omega⟩
theorem blot_rows {hdr : List Nat} (hn : 1 ≤ hdr.length) {x : List (List Nat)} (h0 : x ≠ []) : blot hdr.length (rowsR hdr x) = rowsR (bl hdr.length) x := by
  obtain ⟨zs, z, hz⟩ : ∃ zs z, x = zs ++ [z] := ⟨x.dropLast, x.getLast h0, (List.dropLast_concat_getLast h0).symm⟩
  have hm : ∀ (q : List (List Nat)), (q.map fun r => hdr ++ r).map (fun r => List.replicate hdr.length 32 ++ r.drop hdr.length) = q.map fun r => bl hdr.length ++ r := by
    intro q
    rw [List.map_map]
    refine List.map_congr_left fun r _ => ?_
    show _ ++ (hdr ++ r).drop hdr.length = _
    rw [List.drop_left]
  unfold blot
  rw [hz, rowsR_snoc, rowsR_snoc, List.getLast?_concat]
  cases z with
  | nil => rw [if_pos rfl, if_pos rfl, List.dropLast_concat, hm]
  | cons c r =>
    rw [if_neg (by simp), if_neg (by simp)]
    cases hdr with
    | nil => simp at hn
    | cons d hdr =>
      show (zs.map (fun r => (d :: hdr) ++ r) ++ [(d :: hdr) ++ c :: r]).map _ = _
      rw [List.map_append, hm]
      show _ ++ [List.replicate (d :: hdr).length 32 ++ ((d :: hdr) ++ c :: r).drop (d :: hdr).length] = _
      rw [List.drop_left]
theorem isList_kp {h h' : Heap} {b : Addr} {x : Array Value} (H : h.IsList b x) (k : Kp h h') : h'.IsList b x := let ⟨o, a, r⟩ := H; ⟨o, k _ _ a, r⟩


theorem para_wt2 {x : List (List Nat)} {lim : Int} (hx : ∃ r ∈ x, isW r = false) (hw : wtL x ≤ 1000) (hi : ∀ l ∈ x, (ind l).length ≤ 20) : wtL (para x lim) ≤ 40000 := by
  obtain ⟨pre, l0, more, rfl, hp, h0⟩ := split_rows hx
  rw [para_eq lim hp h0]
  have hi1 := hi l0 (by simp)
  have hi2 : (ind2 (ind l0) more).length ≤ 20 := by
    rcases ind2_cases (ind l0) more with e | ⟨l, hl, _, e⟩
    · rw [e]; exact hi1
    · rw [e]; exact hi l (by simp [hl])
  have h1 := fold_wt (ind l0) (ind2 (ind l0) more) lim ((l0 :: more).takeWhile nW) (pre, ind l0)
  rw [wtL_app] at hw
  have e1 : wtL (l0 :: more) = wtL ((l0 :: more).takeWhile nW) + wtL ((l0 :: more).dropWhile nW) := by rw [← wtL_app, List.takeWhile_append_dropWhile]
  have h2 := sumL_wt ((l0 :: more).takeWhile nW)
  have h3 : ((ind2 (ind l0) more).length + 4) * sumL ((l0 :: more).takeWhile nW) ≤ 24 * 1000 := Nat.mul_le_mul (by omega) (by omega)
  have h4 : wt (pre, ind l0) = wtL pre + (ind l0).length := rfl
  generalize ((l0 :: more).takeWhile nW).foldl (fun st l => goC (ind l0) (ind2 (ind l0) more) lim (chk l) st) (pre, ind l0) = fin at *
  have h5 := rstripL_len fin.2
  rw [wtL_app, wtL_app, wtL_cons, wtL_nil]
  have h6 : wt fin = wtL fin.1 + fin.2.length := rfl
  omega
theorem rowsR_wt (p : List Nat) : ∀ x, wtL (rowsR p x) ≤ wtL x + p.length * x.length
  | [] => Nat.zero_le _
  | [l] => by
    by_cases hl : l = []
    · have e : rowsR p [l] = [[]] := by show (if l = [] then _ else _) = _; rw [if_pos hl]
      rw [e, wtL_cons, wtL_cons]; simp; omega
    · have e : rowsR p [l] = [p ++ l] := by show (if l = [] then _ else _) = _; rw [if_neg hl]
      rw [e, wtL_cons, wtL_cons, List.length_append]; simp; omega
  | l :: k :: r => by
    show wtL ((p ++ l) :: rowsR p (k :: r)) ≤ _
    have := rowsR_wt p (k :: r)
    rw [wtL_cons, wtL_cons, List.length_append, List.length_cons (a := l), Nat.mul_succ]; omega
theorem rowsR_wt8 {p : List Nat} {x : List (List Nat)} {N : Nat} (hp : p.length ≤ 8) (hx : wtL x ≤ N) : wtL (rowsR p x) ≤ 9 * N := by
  have h1 := rowsR_wt p x
  have h2 := wtL_len x
  have h3 : p.length * x.length ≤ 8 * N := Nat.mul_le_mul hp (by omega)
  omega
theorem rowsR_free {p : List Nat} {x : List (List Nat)} (hp : 10 ∉ p) (hx : ∀ r ∈ x, 10 ∉ r) : ∀ r ∈ rowsR p x, 10 ∉ r := by
  intro r hr
  rcases rowsR_mem hr with rfl | ⟨q, hq, rfl⟩
  · exact List.not_mem_nil
  · exact fun hm => (List.mem_append.mp hm).elim hp (hx q hq)
theorem bl_free (n : Nat) : 10 ∉ bl n := fun h => by have := List.eq_of_mem_replicate h; omega

/-- all that the walk of the law asks -/
structure Law (hdr : List Nat) (lim : Int) (bod nd : List (List Nat)) : Prop where
  ndE : para bod (max (lim - hdr.length) 20) = nd
  nd0 : nd ≠ []
  ndf : ∀ r ∈ nd, 10 ∉ r
  ndw : wtL nd ≤ 40000
  com : commT hdr nd = joinL (rowsR hdr nd)
  rw0 : rowsR hdr nd ≠ []
  rwf : ∀ r ∈ rowsR hdr nd, 10 ∉ r
  rww : wtL (rowsR hdr nd) ≤ 500000
  rwb : blot hdr.length (rowsR hdr nd) = rowsR (bl hdr.length) nd
  pl0 : rowsR hdr bod ≠ []
  plw : wtL (rowsR hdr bod) ≤ 10000
  plb : blot hdr.length (rowsR hdr bod) = rowsR (bl hdr.length) bod
  q0 : rowsR (bl hdr.length) bod ≠ []
  qf : ∀ r ∈ rowsR (bl hdr.length) bod, 10 ∉ r
  qw : wtL (rowsR (bl hdr.length) bod) ≤ 10000
  qi : ∀ r ∈ rowsR (bl hdr.length) bod, (ind r).length ≤ 20
  tE : para (rowsR (bl hdr.length) bod) (max lim (20 + hdr.length)) = rowsR (bl hdr.length) nd
  t0 : rowsR (bl hdr.length) nd ≠ []
  tf : ∀ r ∈ rowsR (bl hdr.length) nd, 10 ∉ r
  tw : wtL (rowsR (bl hdr.length) nd) ≤ 500000
  set : SetOk (rowsR (bl hdr.length) nd) (max lim (20 + hdr.length))
theorem law_ok {ns : List Int} {hdr : List Nat} {lim : Int} {bod nd : List (List Nat)} (PL : Plain ns hdr lim bod) (e : para bod (max (lim - hdr.length) 20) = nd) : Law hdr lim bod nd := by
  have hbl : (bl hdr.length).length ≤ 8 := by show (List.replicate _ _).length ≤ _; rw [List.length_replicate]; exact PL.n8
  have n0 : nd ≠ [] := by rw [← e]; exact para_ne PL.some
  have nf : ∀ r ∈ nd, 10 ∉ r := by rw [← e]; exact para_free PL.some PL.nl
  have nw : wtL nd ≤ 40000 := by rw [← e]; exact para_wt2 PL.some (by have := PL.wt; omega) fun l hl => by have := PL.ind l hl; omega
  have hsh := PL.shift
  rw [e] at hsh
  have hset := PL.set
  rw [hsh] at hset
  refine ⟨e, n0, nf, nw, commT_rows n0 (fun zs hz => para_last PL.some (by rw [e]; exact hz)), rowsR_ne _ n0, rowsR_free PL.hnl nf, ?_, blot_rows PL.n1 n0, rowsR_ne _ PL.ne, ?_, blot_rows PL.n1 PL.ne, rowsR_ne _ PL.ne, rowsR_free (bl_free _) PL.nl, ?_, ?_, hsh, rowsR_ne _ n0, rowsR_free (bl_free _) nf, ?_, hset⟩
  · have := rowsR_wt8 PL.n8 nw; omega
  · have := rowsR_wt8 PL.n8 PL.wt; omega
  · have := rowsR_wt8 hbl PL.wt; omega
  · intro r hr
    rcases rowsR_mem hr with rfl | ⟨q, hq, rfl⟩
    · exact Nat.zero_le _
    · rw [ind_bl, List.length_append]
      have := PL.ind q hq
      omega
  · have := rowsR_wt8 hbl nw; omega
end
end Mine
end

-- W15
section
set_option maxRecDepth 100000
set_option linter.unusedVariables false
set_option Elab.async false
namespace Mine
open PySem PySem.W PyProof.Rows PySem.Calls PySem.Builtin PySem.Builtin.Str

noncomputable section
theorem fill11 : (PySem.Challenge.rw_lg0018_01, hd.heap_39) = (PySem.Challenge.rw_lg0018_01, hd.heap_39) := by k_fill; rfl

section
variable {prog : Program} {w : World} {mg mb : Str → Option Value} {A : Around} {E : Value → Shared → Prop} {s : Shared} {t u : Tok} {Q : Value → Shared → Prop}
theorem oneL {h₀ : Heap} {L : Addr} {l : List (Str × Value)} {nw : List (Addr × Shp)} {env : Env} {pos cpos : Pos} {kk : Nat} {y : Str} {x : List Nat} (hx : y = S x) (C : St w mg mb h₀ L l nw s.heap) (h : ∀ b h' k, St w mg mb h₀ L l ((b, isT [S x]) :: nw) h' → Q (.ref b) { s with heap := h', toks := k }) :
    wpAny (model prog w) A (eval (.List [.Constant (.str y) kk cpos] pos) env) Q E s :=
  wpAny_List_spliced (args_cons (constS hx fun t k => args_nil ⟨by rw [sz16]; simp, h _ _ _ (C.push ⟨_, .cons _ t .nil, _, rfl⟩)⟩))
set_option maxHeartbeats 8000000 in
theorem law_spec {ns : List Int} {vs : List Value} {bs P bm : Addr} {ob : Obj} (G : Gd w mg mb s.heap) (B : Based s.heap s.heap 59 P #[]) (M : BMod s.heap mainGlobals mg bm ob) (GB : AllBare s.gens)
   (hroom : A.depth + 20 < recursionLimit) (hh : A.handled = none) (hu : A.units + 200 < cLine) (hs : s.heap.IsList bs vs.toArray) (hv : IntsAre vs ns) (hsl : ns.length ≤ 1000000)
   (h : ∀ s', OldK s.heap s'.heap → AllBare s'.gens → s'.os = s.os → Q (.bool true) s') :
   wpAny (model prog w) A (call (.ref 98) [.ref bs]) Q E s := by
  have PL := plain_ok ns
  have hinds := inds_facts (hdOf (ns.headD 0)).length
  obtain ⟨hd0, hhd⟩ : ∃ x, ns.headD 0 = x := ⟨_, rfl⟩
  have hbodE : bodOf ns = bodiesOf (indsOf (hdOf hd0).length) ns ++ sufs.getD (hd0 / 512 % 3).toNat [] := by rw [← hhd]; rfl
  rw [hhd] at PL hinds
  obtain ⟨hdr, hhdr⟩ : ∃ x, hdOf hd0 = x := ⟨_, rfl⟩
  obtain ⟨lim, hlim⟩ : ∃ x, limOf hd0 = x := ⟨_, rfl⟩
  rw [hhdr] at PL hinds hbodE
  rw [hlim] at PL
  obtain ⟨bod0, hbod0⟩ : ∃ x, bodiesOf (indsOf hdr.length) ns = x := ⟨_, rfl⟩
  obtain ⟨suf, hsuf⟩ : ∃ x, sufs.getD (hd0 / 512 % 3).toNat [] = x := ⟨_, rfl⟩
  rw [hbod0, hsuf] at hbodE
  rw [hbodE] at PL
  obtain ⟨bod, hbod⟩ : ∃ x, bod0 ++ suf = x := ⟨_, rfl⟩
  rw [hbod] at PL
  obtain ⟨nd, hnd⟩ : ∃ x, para bod (max (lim - hdr.length) 20) = x := ⟨_, rfl⟩
  have LW := law_ok PL hnd
  have hn8 := PL.n8
  have hn1 := PL.n1
  have hbw := PL.wt
  have hbl := wtL_len bod
  have hb0l : bod0.length + suf.length = bod.length := by rw [← hbod, List.length_append]
  have r8 : 0 ≤ hd0 % 8 ∧ hd0 % 8 < 8 := ⟨Int.emod_nonneg _ (by decide), Int.emod_lt_of_pos _ (by decide)⟩
  refine' call_fnC (f := 98) (binds := [(Str.ofString "script", .ref bs)]) (lm := [(Str.ofString "script", .ref bs)])
    (cl := fun L => [(Str.ofString "bodies", L + 1 + 1), (Str.ofString "header", L + 1)]) (cm := fun L => [(L + 1 + 1, none), (L + 1, none)]) G (by omega) ?ho ?hcd ?hb ?hkd ?hnd ?hcl ?hcm ?hcd2 ?hl ?h1 ?h2 ?h3 ?_
  case ho => k_is
  case hcd => k_is
  case hb => exact rfl
  case hkd => exact rfl
  case hnd => decide
  case hcl => exact fun _ => rfl
  case hcm => exact fun _ => rfl
  case hcd2 => exact fun L => List.nodup_cons.mpr ⟨fun hm => (List.mem_cons.mp hm).elim (fun e => absurd e (Nat.succ_ne_self _)) (fun hm => (nomatch hm)), List.nodup_cons.mpr ⟨List.not_mem_nil, List.nodup_nil⟩⟩
  case hl => exact ⟨rfl, trivial⟩
  case h1 => exact rfl
  case h2 => exact rfl
  case h3 => exact rfl
  intro L h₁ tk C hLe
  have O : SameO s { s with heap := h₁, toks := tk } := SameO.refl s
  have C : St w mg mb s.heap L [(Str.ofString "script", .ref bs)] [(L + 1 + 1, isC none), (L + 1, isC none)] h₁ := C
  -- head
  refine seqJ (fun s' => ∃ th, St w mg mb (s.heap) L [(Str.ofString "head", .int hd0 th), (Str.ofString "script", .ref bs)] [(L + 1 + 1, isC none), (L + 1, isC none)] s'.heap ∧ SameO s s') ?_ ?_
  · skip
    refine wpAny_Assign_Name (wpAny_IfExp (wpAny_isTrue_Compare1 (rdL C rfl (nilL C fun be h' C => neNil (isList_kp hs C.kp) (C.hasT (.head _)).isNil (by show A.units + 3 < _; omega) (wpAny_truthy_bool ?_)))))
    have C := C.drop (List.sublist_cons_self _ _)
    clear PL LW hinds hbodE hbod0 hsuf
    cases hv with
    | nil =>
      rw [if_neg (show ¬ ((!List.isEmpty ([] : List Value)) = true) from Bool.false_ne_true)]
      subst hhd
      exact wpAny_Constant_int (stX C O fun s₁ C O => ⟨rfl, _, C.sub ⟨rfl, rfl, trivial⟩, O⟩)
    | cons n0 t0 hv0 =>
      rw [if_pos (show (!List.isEmpty (Value.int n0 t0 :: _)) = true from rfl)]
      subst hhd
      refine subL (rdL C rfl (wpAny_Constant_int ⟨bs, _, _, rfl, rfl, (isList_kp hs C.kp).typeIs, getItem_listL (isList_kp hs C.kp) (by decide) (by decide) rfl ?_⟩))
      exact stX C O fun s₁ C O => ⟨rfl, _, C.sub ⟨rfl, rfl, trivial⟩, O⟩
  clear C O
  rintro s₁ ⟨th, C, O⟩
  -- header
  refine seqJ (fun s' => ∃ t9, St w mg mb (s.heap) L [(Str.ofString "head", .int hd0 th), (Str.ofString "script", .ref bs)] [(L + 1 + 1, isC none), (L + 1, isC (some (.str (S hdr) t9)))] s'.heap ∧ SameO s s') ?_ ?_
  · skip
    refine wpAny_Assign_Name (subL ?_)
    refine wpAny_List_spliced (args_cons (constS (x := [35]) (by decide +kernel) fun t1 k1 => args_cons (constS (x := [32, 32, 32, 32]) (by decide +kernel) fun t2 k2 => args_cons (constS (x := [47, 47]) (by decide +kernel) fun t3 k3 => args_cons (constS (x := [35, 32]) (by decide +kernel) fun t4 k4 => ?_)))))
    refine args_cons (constS (x := [9, 35, 35]) (by decide +kernel) fun t5 k5 => args_cons (constS (x := [32, 32, 32, 32, 35, 35, 35, 35]) (by decide +kernel) fun t6 k6 => args_cons (constS (x := [45, 42, 45, 32]) (by decide +kernel) fun t7 k7 => args_cons (constS (x := [9]) (by decide +kernel) fun t8 k8 => args_nil ⟨by rw [sz16]; simp, ?_⟩))))
    have C := pushT C (StrsAre.cons (S [35]) t1 (.cons (S [32, 32, 32, 32]) t2 (.cons (S [47, 47]) t3 (.cons (S [35, 32]) t4 (.cons (S [9, 35, 35]) t5 (.cons (S [32, 32, 32, 32, 35, 35, 35, 35]) t6 (.cons (S [45, 42, 45, 32]) t7 (.cons (S [9]) t8 .nil))))))))
    refine wpAny_BinOp (rdL C rfl (wpAny_Constant_int (mod_int' (by decide) ?_)))
    rw [fmodp _ (by decide)]
    refine ⟨_, _, _, rfl, rfl, typeT C (.head _), getT (z := S (hdOf hd0)) C (.head _) (by omega) (by omega) (getD_get (ls := headers) r8.1 r8.2) fun t9 => ?_⟩
    have C := C.drop (List.sublist_cons_self _ _)
    rw [hhdr]
    exact stC C rfl (.tail .head) (fun h' C => ⟨rfl, t9, C, O⟩)
  clear C O
  rintro s₁ ⟨t9, C, O⟩
  -- limit
  refine seqJ (fun s' => ∃ tl, St w mg mb (s.heap) L [(Str.ofString "limit", .int lim tl), (Str.ofString "head", .int hd0 th), (Str.ofString "script", .ref bs)] [(L + 1 + 1, isC none), (L + 1, isC (some (.str (S hdr) t9)))] s'.heap ∧ SameO s s') ?_ ?_
  · skip
    refine wpAny_Assign_Name (wpAny_BinOp (wpAny_BinOp (wpAny_BinOp (rdL C rfl (wpAny_Constant_int (floordiv_int (by decide) (wpAny_Constant_int (mod_int' (by decide) (wpAny_Constant_int (PySem.P.sub_int ?_))))))))))
    have hlimE : (hd0.fdiv 8).fmod 64 - 4 = lim := by
      rw [← hlim]
      unfold limOf
      rw [Int.fdiv_eq_ediv_of_nonneg _ (by decide), fmodp _ (by decide)]
    rw [hlimE]
    exact stX C O (fun s₂ C O => ⟨rfl, _, C, O⟩)
  clear C O
  rintro s₁ ⟨tl, C, O⟩
  -- size
  refine seqJ (fun s' => ∃ ts, St w mg mb (s.heap) L [(Str.ofString "size", .int hdr.length ts), (Str.ofString "limit", .int lim tl), (Str.ofString "head", .int hd0 th), (Str.ofString "script", .ref bs)] [(L + 1 + 1, isC none), (L + 1, isC (some (.str (S hdr) t9)))] s'.heap ∧ SameO s s') ?_ ?_
  · skip
    exact wpAny_Assign_Name (callB C (by k_is) (by boot_fast) (sp1 (rdC C rfl (.tail _ (.head _)) (lenS (fun t10 k10 => stX C O fun s₃ C O => ⟨rfl, _, C, O⟩) (by omega)))))
  clear C O
  rintro s₁ ⟨ts, C, O⟩
  -- bodies
  refine seqJ (fun s' => ∃ D, St w mg mb (s.heap) L [(Str.ofString "size", .int hdr.length ts), (Str.ofString "limit", .int lim tl), (Str.ofString "head", .int hd0 th)] [(D, isT (bod0.map S)), (L + 1 + 1, isC (some (.ref D))), (L + 1, isC (some (.str (S hdr) t9)))] s'.heap ∧ SameO s s') ?_ ?_
  · skip
    refine wpAny_Assign_Name (callK C (by k_is) (by k_is) (sp2 (rdL C rfl (wpAny_mono (Q := fun v s' => ∃ bi, v = .ref bi ∧ St w mg mb (s.heap) L [(Str.ofString "size", .int hdr.length ts), (Str.ofString "limit", .int lim tl), (Str.ofString "head", .int hd0 th), (Str.ofString "script", .ref bs)] [(bi, isT ((indsOf hdr.length).map S)), (L + 1 + 1, isC none), (L + 1, isC (some (.str (S hdr) t9)))] s'.heap ∧ SameO s s') (E := fun _ _ => False) ?_ ?_ fun _ _ x => x.elim))))
    · refine wpAny_IfExp (wpAny_isTrue_Compare1 (rdL C rfl (wpAny_Constant_int (PySem.P.eq_int (wpAny_truthy_bool ?_)))))
      by_cases h8 : hdr.length = 8
      · rw [if_pos (by rw [h8]; rfl)]
        have hi8 : indsOf hdr.length = [[], [32], [9], [32, 9]] := by unfold indsOf; rw [if_pos h8]
        refine wpAny_List_spliced (args_cons (constS (x := []) (by decide +kernel) fun t11 k11 => args_cons (constS (x := [32]) (by decide +kernel) fun t12 k12 => args_cons (constS (x := [9]) (by decide +kernel) fun t13 k13 => args_cons (constS (x := [32, 9]) (by decide +kernel) fun t14 k14 => args_nil ⟨by rw [sz16]; simp, ?_⟩)))))
        have C := pushT C (StrsAre.cons (S []) t11 (.cons (S [32]) t12 (.cons (S [9]) t13 (.cons (S [32, 9]) t14 .nil))))
        exact ⟨_, rfl, by rw [hi8]; exact C, O⟩
      · rw [if_neg (by simpa using (show ¬ (hdr.length : Int) = 8 by omega))]
        have hi8 : indsOf hdr.length = [[], [32], [32, 32, 32], [32, 32]] := by unfold indsOf; rw [if_neg h8]
        refine wpAny_List_spliced (args_cons (constS (x := []) (by decide +kernel) fun t11 k11 => args_cons (constS (x := [32]) (by decide +kernel) fun t12 k12 => args_cons (constS (x := [32, 32, 32]) (by decide +kernel) fun t13 k13 => args_cons (constS (x := [32, 32]) (by decide +kernel) fun t14 k14 => args_nil ⟨by rw [sz16]; simp, ?_⟩)))))
        have C := pushT C (StrsAre.cons (S []) t11 (.cons (S [32]) t12 (.cons (S [32, 32, 32]) t13 (.cons (S [32, 32]) t14 .nil))))
        exact ⟨_, rfl, by rw [hi8]; exact C, O⟩
    clear C O
    rintro v s₄ ⟨bi, rfl, C, O⟩
    refine ⟨C.gd.X, ?_⟩
    refine bodies_spec C.gd (by show A.depth + 1 + 5 < _; omega) hh (by show A.units + 3 + 100 < _; omega) (isList_kp hs C.kp) hv hsl (C.hasT (.head _)) hinds.1 (fun r hr => (hinds.2.1 r hr).1) (fun D h' k11 hk hf hD => ?_)
    rw [hbod0] at hD
    obtain ⟨oD, hoD, hDT⟩ := hD
    have C := (C.drop (List.sublist_cons_self _ _)).add hk hf hoD hDT
    exact stC C rfl (.tail .head) (fun h' C => ⟨rfl, D, C.sub ⟨rfl, rfl, rfl, trivial⟩, O⟩)
  clear C O
  rintro s₁ ⟨D, C, O⟩
  -- extend
  refine seqJ (fun s' => St w mg mb (s.heap) L [(Str.ofString "size", .int hdr.length ts), (Str.ofString "limit", .int lim tl)] [(D, isT (bod.map S)), (L + 1 + 1, isC (some (.ref D))), (L + 1, isC (some (.str (S hdr) t9)))] s'.heap ∧ SameO s s') ?_ ?_
  · skip
    refine wpAny_Expr (meth1 F.plainAttrs_list F.slot_list_extend F.type_list_extend (rdC C rfl (.tail _ (.head _)) ⟨typeT C (.head _), dictT C (.head _), sp1 (wpAny_mono (Q := fun v s' => ∃ x, v = .ref x ∧ St w mg mb (s.heap) L [(Str.ofString "size", .int hdr.length ts), (Str.ofString "limit", .int lim tl), (Str.ofString "head", .int hd0 th)] [(x, isT (suf.map S)), (D, isT (bod0.map S)), (L + 1 + 1, isC (some (.ref D))), (L + 1, isC (some (.str (S hdr) t9)))] s'.heap ∧ SameO s s') (E := fun _ _ => False) ?_ ?_ fun _ _ x => x.elim)⟩))
    · have k3 : 0 ≤ hd0 / 512 % 3 ∧ hd0 / 512 % 3 < 3 := ⟨Int.emod_nonneg _ (by decide), Int.emod_lt_of_pos _ (by decide)⟩
      refine subL (wpAny_List_spliced (args_cons (nilL C fun b1 h' C => args_cons (oneL (x := []) (by decide +kernel) C fun b2 h' k11 C => args_cons (oneL (x := [32, 32]) (by decide +kernel) C fun b3 h' k12 C => args_nil ⟨by rw [sz16]; simp, ?_⟩)))))
      have C := pushL (vs := [.ref b1, .ref b2, .ref b3]) C
      refine wpAny_BinOp (wpAny_BinOp (rdL C rfl (wpAny_Constant_int (floordiv_int (by decide) (wpAny_Constant_int (mod_int' (by decide) ?_))))))
      rw [Int.fdiv_eq_ediv_of_nonneg _ (by decide), fmodp _ (by decide)]
      obtain ⟨oL, hoL, nL, rfl⟩ := C.get (.head _)
      have IL := (⟨_, hoL, rfl, nL, rfl⟩ : Heap.IsList _ _ _)
      refine ⟨_, _, _, rfl, rfl, Heap.IsList.typeIs IL, ?_⟩
      have hk : hd0 / 512 % 3 = 0 ∨ hd0 / 512 % 3 = 1 ∨ hd0 / 512 % 3 = 2 := by omega
      rcases hk with e | e | e <;> rw [e] at hsuf ⊢ <;> subst hsuf
      · exact getItem_listL IL (by decide) (by decide) rfl ⟨_, rfl, C.drop (.cons _ (.cons _ (.cons _ (List.Sublist.refl _)))), O⟩
      · exact getItem_listL IL (by decide) (by decide) rfl ⟨_, rfl, C.drop (.cons _ (.cons _ (.cons₂ _ (.cons _ (List.Sublist.refl _))))), O⟩
      · exact getItem_listL IL (by decide) (by decide) rfl ⟨_, rfl, C.drop (.cons _ (.cons₂ _ (.cons _ (.cons _ (List.Sublist.refl _))))), O⟩
    clear C O
    rintro v s₄ ⟨x, rfl, C, O⟩
    refine extendT C (.head _) (.tail .head) (by rw [List.length_map, List.length_map]; omega) (fun h' C => ?_)
    rw [← List.map_append, hbod] at C
    exact ⟨rfl, (C.drop (List.sublist_cons_self _ _)).sub ⟨rfl, rfl, trivial⟩, O⟩
  clear C O
  rintro s₁ ⟨C, O⟩
  -- block
  refine seqJ (fun s' => ∃ tb, St w mg mb (s.heap) L [(Str.ofString "block", .str (S (joinL (blk hdr bod))) tb), (Str.ofString "size", .int hdr.length ts), (Str.ofString "limit", .int lim tl)] [(D, isT (bod.map S)), (L + 1 + 1, isC (some (.ref D))), (L + 1, isC (some (.str (S hdr) t9)))] s'.heap ∧ SameO s s') ?_ ?_
  · skip
    refine wpAny_Assign_Name (meth1 F.plainAttrs_str F.slot_str_join F.type_str_join (constS (x := [10]) (by decide +kernel) fun t1 k1 => ⟨typeIs_str _ _ _, fun a ha => (nomatch ha), sp1 (lcR (mg := mg) (mb := mb) (h₀ := s.heap) (L := L) (g := blkR hdr bod) (N := bod.length) (cl := [(Str.ofString "header", L + 1), (Str.ofString "bodies", L + 1 + 1)]) hh rfl (by decide) rfl (by decide) rfl ?_)⟩))
    refine callY C (by k_is) (by boot_fast) (sp1 (callB C (by k_is) (by boot_fast) (sp1 (rdC C rfl (.tail _ (.head _)) (lenT C (.head _) (by rw [List.length_map]; omega) fun t2 k2 => ?_)))))
    rw [List.length_map]
    refine call_range_1 ?_
    refine ⟨_, _, _, _, _, _, _, rfl, IsRange.new _ _ _ _ _ _ _, small1 (by omega), rsize1 _, C.keeps (kp_push _ _), by omega, ?_, ?_⟩
    · intro Cc i t3 s₃ m₃ E' hi hns hm hk
      have hk : Kp _ s₃.heap := Kp.trans (kp_push _ _) hk
      have hD : HasT s₃.heap D (bod.map S) := (C.hasT (.head _)).kp hk
      have hgi : (bod.map S)[((i : Int)).toNat]? = some (S (bod.getD i [])) := getD_get (ls := bod) (k := (i : Int)) (by omega) (by omega)
      have hbil := wtL_mem (mem_getD hi)
      refine wpAny_IfExp (wpAny_mono (Q := fun b s' => b = decide (bod.getD i [] ≠ [] ∨ i % 2 = 1) ∧ Keeps s₃ s') (E := fun _ _ => False) ?_ ?_ fun _ _ x => x.elim)
      · refine isTrue_or (wpAny_isTrue_Compare1 (subL (rdCC rfl (C.cell (.tail _ (.head _)) hk) (rdCL hns hm ⟨D, _, _, rfl, rfl, typeT' hD, getT' hD (by omega) (by omega) hgi fun t4 => constS (x := []) (by decide +kernel) fun t5 k5 => neS (wpAny_truthy_bool ?_)⟩))))
        by_cases hc : bod.getD i [] = []
        · rw [hc, if_neg (by decide)]
          refine isTrue_or (wpAny_isTrue_Compare1 (wpAny_BinOp (rdCL hns hm (wpAny_Constant_int (mod_int' (by decide) (wpAny_Constant_int (PySem.P.eq_int (wpAny_truthy_bool ?_))))))))
          rw [fmodp _ (by decide)]
          by_cases hi2 : i % 2 = 1
          · rw [if_pos (by simp; omega)]
            exact ⟨by simp [hi2], ⟨_, _, rfl, Kp.refl _⟩⟩
          · rw [if_neg (by simp; omega)]
            exact isTrue_or_nil ⟨by simp [hi2], ⟨_, _, rfl, Kp.refl _⟩⟩
        · rw [if_pos (by simpa using hc)]
          exact ⟨by rw [decide_eq_true (.inl hc)], ⟨_, _, rfl, Kp.refl _⟩⟩
      · rintro b s₄ ⟨rfl, h₅, k₅, rfl, hk5⟩
        have hns5 : h₅.Ns Cc m₃ := hns.keeps hk5
        unfold blkR
        by_cases hc : bod.getD i [] ≠ [] ∨ i % 2 = 1
        · rw [if_pos (decide_eq_true hc), if_pos hc]
          refine wpAny_BinOp (rdCC rfl (C.cell (.tail _ (.tail _ (.head _))) (Kp.trans hk hk5)) (subL (rdCC rfl (C.cell (.tail _ (.head _)) (Kp.trans hk hk5)) (rdCL hns5 hm ⟨D, _, _, rfl, rfl, typeT' (hD.kp hk5), getT' (hD.kp hk5) (by omega) (by omega) hgi fun t6 => addS (fun t7 k7 => ⟨⟨_, rfl⟩, ⟨_, _, rfl, hk5⟩⟩) (by omega)⟩))))
        · rw [if_neg (by simpa using hc), if_neg hc]
          exact constS (x := []) (by decide +kernel) fun t6 k6 => ⟨⟨_, rfl⟩, ⟨_, _, rfl, hk5⟩⟩
    · intro Dl h' tk C hk
      refine joinS (ls := blk hdr bod) C (.head _) ?_ (fun t8 k8 => stX (C.drop (List.sublist_cons_self _ _)) O fun s₅ C O => ⟨rfl, _, C, O⟩)
      have := blk_wt hn8 hbw
      unfold wtL at this
      omega
  clear C O
  rintro s₁ ⟨tb, C, O⟩
  -- rows
  refine seqJ (fun s' => ∃ R ps, Based s.heap (regrown s.heap P ps) 59 P ps ∧ St w mg mb (regrown s.heap P ps) L [(Str.ofString "rows", .ref R), (Str.ofString "size", .int hdr.length ts), (Str.ofString "limit", .int lim tl)] [(R, isT ((rowsR hdr nd).map S)), (D, isT (bod.map S)), (L + 1 + 1, isC (some (.ref D))), (L + 1, isC (some (.str (S hdr) t9)))] s'.heap ∧ AllBare s'.gens ∧ s'.os = s.os) ?_ ?_
  · skip
    have hblkf : ∀ r ∈ blk hdr bod, 10 ∉ r := by
      intro r hr
      rcases blk_mem hr with rfl | ⟨q, hq, rfl⟩
      · exact List.not_mem_nil
      · exact fun hm => (List.mem_append.mp hm).elim PL.hnl (PL.nl q hq)
    obtain ⟨m, Fm, hm⟩ := C.F
    refine wpAny_Assign_Name (meth1 F.plainAttrs_str F.slot_str_split F.type_str_split (callK C (by k_is) (by k_is) (sp3 (rdL C rfl (rdL C rfl (rdC C rfl (.tail _ (.tail _ (.head _))) ⟨C.gd.X, ?_⟩))))))
    refine comment_spec C.gd (Based.start (B.codeAt Fm) (B.tabAt Fm) B.notStatics) (M.keeps C.kp) (by rw [O.1]; exact GB) (by show A.depth + 1 + 10 < _; omega) hh (blk_ne PL.ne) hblkf (blk_wt hn8 hbw) hn8 (by rw [blk_drop]; intro l hl; have := PL.ind l hl; omega) (by rw [blk_drop, LW.ndE]; exact LW.nd0) (by rw [blk_drop, LW.ndE]; exact LW.ndf) (by rw [blk_drop, LW.ndE]; have := LW.ndw; omega) (fun s₅ t5 hk hps hg hos => ?_)
    rw [blk_drop, LW.ndE, LW.com]
    obtain ⟨ps, hcode, htab⟩ := hps
    obtain ⟨B1, F1⟩ := B.grow (more := ps) Fm hk (by simpa using hcode) (by simpa using htab)
    rw [Array.empty_append] at B1 F1
    have C := C.regrow B hm F1 hk
    have hj := joinL_len (rowsR hdr nd)
    have hw := LW.rww
    refine ⟨typeIs_str _ _ _, fun a ha => (nomatch ha), sp1 (constS (x := [10]) (by decide +kernel) fun t6 k6 => splitS C LW.rw0 LW.rwf rfl (by omega) (fun R h' k C => ?_))⟩
    exact stL C (fun h' C => ⟨rfl, R, ps, B1, C.sub ⟨rfl, rfl, rfl, trivial⟩, hg, by show s₅.os = _; rw [hos, O.2.2]⟩)
  clear C O
  rintro s₈ ⟨R, ps, B1, C, GB1, hos1⟩
  have O : SameO s₈ s₈ := SameO.refl _
  -- loop
  refine seqJ (fun s' => St w mg mb (regrown s.heap P ps) L [(Str.ofString "rows", .ref R), (Str.ofString "size", .int hdr.length ts), (Str.ofString "limit", .int lim tl)] [(R, isT ((rowsR hdr nd).map S)), (D, isT (bod.map S)), (L + 1 + 1, isC (some (.ref D))), (L + 1, isC (some (.str (S hdr) t9)))] s'.heap ∧ SameO s₈ s') ?_ ?_
  · skip
    have hrl := wtL_len (rowsR hdr nd)
    have hrw := LW.rww
    refine for_range (s₀ := s₈) (h₀ := regrown s.heap P ps) (mg := mg) (mb := mb) (N := (rowsR hdr nd).length) (c := 1) hh (fun it i s' => St w mg mb (regrown s.heap P ps) L [(Str.ofString "rows", .ref R), (Str.ofString "size", .int hdr.length ts), (Str.ofString "limit", .int lim tl)] [(it, isRI (i * 1) ((rowsR hdr nd).length - (i : Int)) 1), (R, isT ((rowsR hdr nd).map S)), (D, isT (bod.map S)), (L + 1 + 1, isC (some (.ref D))), (L + 1, isC (some (.str (S hdr) t9)))] s'.heap ∧ SameO s₈ s') ?_ ?_
    · refine callY C (by k_is) (by boot_fast) (sp1 (callB C (by k_is) (by boot_fast) (sp1 (rdL C rfl (lenT C (.head _) (by rw [List.length_map]; omega) fun t2 k2 => ?_)))))
      rw [List.length_map]
      refine call_range_1 ?_
      exact ⟨_, _, _, _, _, _, _, rfl, IsRange.new _ _ _ _ _ _ _, small1 (by omega), rsize1 _, C.keeps (kp_push _ _), O, fun it s₅ C O hk => ⟨C, O⟩⟩
    · rintro it i s₅ hiN ⟨C, O⟩
      refine ⟨_, _, C, O, ?_, fun s₆ hi C O => ⟨rfl, C, O⟩⟩
      intro tk s₆ hi C O
      have hgl := wtL_mem (List.getElem_mem hi)
      have hgi : ((rowsR hdr nd).map S)[(((i : Int) * 1)).toNat]? = some (S (rowsR hdr nd)[i]) := by rw [show ((i : Int) * 1).toNat = i by omega]; exact get_map hi
      have hck := rowsR_check hi
      refine wpAny_execs_cons (wpAny_If (isTrue_and (wpAny_isTrue_Compare1 (sliceS (subL (rdL C rfl (rdL C rfl ⟨R, _, _, rfl, rfl, typeT C (.tail _ (.head _)), getT C (.tail _ (.head _)) (by omega) (by omega) hgi fun t3 => partN (partE (rdL C rfl ⟨(rowsR hdr nd)[i], t3, none, some (hdr.length, ts), rfl, rfl, rfl, by omega, fun t4 k4 h' hk => ?_⟩))⟩)))))))
      have C := C.keeps hk
      have hcut := cut_to (rowsR hdr nd)[i] hdr.length
      rw [show (none : Option (Int × Tok)).map (·.1) = none from rfl, show (some ((hdr.length : Int), ts)).map (·.1) = some (hdr.length : Int) from rfl, hcut]
      refine rdC C rfl (.tail _ (.tail _ (.tail _ (.tail _ (.head _))))) (neS (wpAny_truthy_bool ?_))
      rcases hck with e | ⟨e, e2⟩
      · rw [e, if_neg (by simp)]
        exact wpAny_execs_nil (wpAny_execs_nil ⟨.inl rfl, C.sub ⟨rfl, rfl, rfl, trivial⟩, O⟩)
      · rw [if_pos (by rw [e]; cases hdr with | nil => simp at hn1 | cons c r => simp)]
        refine isTrue_and (isTrue_or (wpAny_isTrue_Compare1 (subL (rdL C rfl (rdL C rfl ⟨R, _, _, rfl, rfl, typeT C (.tail _ (.head _)), getT C (.tail _ (.head _)) (by omega) (by omega) hgi fun t5 => constS (x := []) (by decide +kernel) fun t6 k6 => neS (wpAny_truthy_bool ?_)⟩)))))
        rw [e, if_neg (by decide)]
        refine isTrue_or (wpAny_isTrue_Compare1 (wpAny_BinOp (rdL C rfl (wpAny_Constant_int (PySem.P.add_int (callB C (by k_is) (by boot_fast) (sp1 (rdL C rfl (lenT C (.tail _ (.head _)) (by rw [List.length_map]; omega) fun t7 k7 => PySem.P.lt_int (wpAny_truthy_bool ?_))))))))))
        rw [List.length_map, if_neg (by simp; omega)]
        refine isTrue_or_nil ?_
        exact wpAny_execs_nil (wpAny_execs_nil ⟨.inl rfl, C.sub ⟨rfl, rfl, rfl, trivial⟩, O⟩)
  clear C O
  rintro s₁ ⟨C, O⟩
  -- plain
  refine seqJ (fun s' => ∃ Z, St w mg mb (regrown s.heap P ps) L [(Str.ofString "plain", .ref Z), (Str.ofString "rows", .ref R), (Str.ofString "size", .int hdr.length ts), (Str.ofString "limit", .int lim tl)] [(Z, isT ((rowsR hdr bod).map S)), (R, isT ((rowsR hdr nd).map S))] s'.heap ∧ SameO s₈ s') ?_ ?_
  · skip
    obtain ⟨zs, z, hz⟩ : ∃ zs z, bod = zs ++ [z] := ⟨bod.dropLast, bod.getLast PL.ne, (List.dropLast_concat_getLast PL.ne).symm⟩
    have hzw : wtL bod = wtL zs + (z.length + 1) := by rw [hz, wtL_app, wtL_cons, wtL_nil]
    have hzsl := wtL_len zs
    have hmapE : bod.map S = zs.map S ++ [S z] := by rw [hz, List.map_append]; rfl
    have hcut : cut (bod.map S) none (some (-1)) = zs.map S := by rw [hmapE]; exact cut_butLast _ _
    refine wpAny_Assign_Name (wpAny_BinOp (lcS (mg := mg) (mb := mb) (h₀ := regrown s.heap P ps) (L := L) (f := fun r => hdr ++ r) (rs := zs) (cl := [(Str.ofString "header", L + 1)]) hh rfl (by decide) rfl (by decide) rfl ?_))
    refine sliceT (rdC C rfl (.tail _ (.tail _ (.head _))) (partN (partE (wpAny_UnaryOp (wpAny_Constant_int (PySem.P.neg_int ⟨D, _, none, some (_, _), _, _, rfl, C, .tail _ (.head _), by rw [List.length_map]; omega, rfl, rfl, fun bz h' C => ?_⟩))))))
    have C : St w mg mb (regrown s.heap P ps) L _ ((bz, isT (cut (bod.map S) none (some (-1)))) :: _) h' := C
    rw [hcut] at C
    refine ⟨bz, _, _, rfl, C, C.hasT (.head _), by omega, ?_, ?_⟩
    · intro Cc r t3 s₃ m₃ E' hr hns hm hk
      have := wtL_mem hr
      exact wpAny_BinOp (rdCC rfl (C.cell (.tail _ (.tail _ (.tail _ (.tail _ (.head _))))) hk) (rdCL hns hm (addS (fun t4 k4 => ⟨⟨_, rfl⟩, ⟨_, _, rfl, Kp.refl _⟩⟩) (by omega))))
    intro D2 h' tk C hk
    have H : HasT h' D (zs.map S ++ [S z]) := by rw [← hmapE]; exact C.hasT (.tail _ (.tail _ (.tail _ (.head _))))
    refine wpAny_List_spliced (args_cons (wpAny_mono (Q := fun v s' => (∃ t', v = .str (S (if z = [] then [] else hdr ++ z)) t') ∧ s'.heap = h' ∧ SameO s₈ s') (E := fun _ _ => False) ?_ ?_ fun _ _ x => x.elim))
    · refine wpAny_IfExp (wpAny_isTrue_Compare1 (subL (rdC C rfl (.tail _ (.tail _ (.tail _ (.tail _ (.head _))))) (wpAny_UnaryOp (wpAny_Constant_int (PySem.P.neg_int ⟨D, _, _, rfl, rfl, typeT' H, getLastT' H fun t5 => constS (x := []) (by decide +kernel) fun t6 k6 => neS (wpAny_truthy_bool ?_)⟩))))))
      by_cases hze : z = []
      · subst hze
        rw [if_neg (by decide)]
        exact constS (x := []) (by decide +kernel) fun t7 k7 => ⟨⟨_, by rw [if_pos rfl]⟩, rfl, O⟩
      · rw [if_pos (by simpa using hze)]
        exact wpAny_BinOp (rdC C rfl (.tail _ (.tail _ (.tail _ (.tail _ (.tail _ (.head _)))))) (subL (rdC C rfl (.tail _ (.tail _ (.tail _ (.tail _ (.head _))))) (wpAny_UnaryOp (wpAny_Constant_int (PySem.P.neg_int ⟨D, _, _, rfl, rfl, typeT' H, getLastT' H fun t7 => addS (fun t8 k8 => ⟨⟨_, by rw [if_neg hze]⟩, rfl, O⟩) (by omega)⟩))))))
    · clear O
      rintro v s₅ ⟨⟨tz, rfl⟩, hh5, O⟩
      rw [← hh5] at C
      refine args_nil ⟨by rw [sz16]; simp, ?_⟩
      have C := pushT C (StrsAre.cons (S (if z = [] then [] else hdr ++ z)) tz .nil)
      have e : (zs.map (fun r => hdr ++ r)).map S ++ [S (if z = [] then [] else hdr ++ z)] = (rowsR hdr bod).map S := by rw [hz, rowsR_snoc, List.map_append]; rfl
      refine addL C (C.hasT (.tail _ (.head _))) (C.hasT (.head _)) (by rw [List.length_map, List.length_map]; simp; omega) (fun d h' C => ?_)
      rw [e] at C
      have C := C.drop (.cons₂ _ (.cons _ (.cons _ (.cons _ (.cons₂ _ (.cons _ (.cons _ (.cons _ (List.Sublist.refl []))))))))) 
      exact stX C O fun s₆ C O => ⟨rfl, _, C.sub ⟨rfl, rfl, rfl, rfl, trivial⟩, O⟩
  clear C O
  rintro s₁ ⟨Z, C, O⟩
  -- told
  refine seqJ (fun s' => ∃ tt, St w mg mb (regrown s.heap P ps) L [(Str.ofString "told", .str (S (joinL (rowsR (bl hdr.length) nd))) tt), (Str.ofString "rows", .ref R), (Str.ofString "size", .int hdr.length ts), (Str.ofString "limit", .int lim tl)] [(R, isT ((rowsR hdr nd).map S))] s'.heap ∧ SameO s₈ s') ?_ ?_
  · skip
    refine wpAny_Assign_Name (callK C (by k_is) (by k_is) (sp2 (callK C (by k_is) (by k_is) (sp2 (rdL C rfl (rdL C rfl ⟨C.gd.X, ?_⟩))))))
    refine blot_spec C.gd (by show A.depth + 1 + 5 < _; omega) hh (C.hasT (.head _)) LW.pl0 (by have := LW.plw; omega) hn8 (fun h' k1 t1 hk => ?_)
    rw [LW.plb]
    have C := C.keeps hk
    refine callB C (by k_is) (by boot_fast) (sp2 (rdL C rfl (wpAny_BinOp (wpAny_Constant_int (rdL C rfl (PySem.P.add_int (maxI hh (fun t2 h' k2 hk => ?_))))))))
    have C := C.keeps hk
    refine ⟨C.gd.X, para_spec C.gd (by show A.depth + 1 + 5 < _; omega) hh LW.q0 LW.qf LW.qw LW.qi (fun h' k3 t3 hk => ?_)⟩
    rw [LW.tE]
    exact stX ((C.keeps hk).drop (List.sublist_cons_self _ _)) O fun s₅ C O => ⟨rfl, _, C.sub ⟨rfl, rfl, rfl, rfl, trivial⟩, O⟩
  clear C O
  rintro s₁ ⟨tt, C, O⟩
  -- the answer
  have hj := joinL_len (rowsR (bl hdr.length) nd)
  have htw := LW.tw
  refine wpAny_execs_cons (wpAny_Return_some (wpAny_And2 (wpAny_Compare1 (callK C (by k_is) (by k_is) (sp2 (rdL C rfl (rdL C rfl ⟨C.gd.X, ?_⟩)))))))
  refine blot_spec C.gd (by show A.depth + 1 + 5 < _; omega) hh (C.hasT (.head _)) LW.rw0 (by have := LW.rww; omega) hn8 (fun h' k1 t1 hk => ?_)
  rw [LW.rwb]
  have C := C.keeps hk
  refine rdL C rfl (eqS (wpAny_truthy_bool ?_))
  rw [if_pos (by simp)]
  refine callK C (by k_is) (by k_is) (sp2 (meth1 F.plainAttrs_str F.slot_str_split F.type_str_split (rdL C rfl ⟨typeIs_str _ _ _, fun a ha => (nomatch ha), sp1 (constS (x := [10]) (by decide +kernel) fun t2 k2 => splitS C LW.t0 LW.tf rfl (by omega) (fun b h' k3 C => ?_))⟩)))
  refine callB C (by k_is) (by boot_fast) (sp2 (rdL C rfl (wpAny_BinOp (wpAny_Constant_int (rdL C rfl (PySem.P.add_int (maxI hh (fun t3 h' k4 hk => ?_))))))))
  have C := C.keeps hk
  refine ⟨C.gd.X, set_spec C.gd (by show A.depth + 1 + 5 < _; omega) hh (by show A.units + 3 + 100 < _; omega) (C.hasT (.head _)) (by omega) LW.set (fun h' k5 hk => ?_)⟩
  obtain ⟨m, Fm, hm⟩ := (C.keeps hk).F
  exact h _ (B1.finish Fm) (by show AllBare s₁.gens; rw [O.1]; exact GB1) (by show s₁.os = _; rw [O.2.2]; exact hos1)
end
end
end Mine
end

-- W16
set_option maxRecDepth 100000
set_option linter.unusedVariables false
set_option Elab.async false
open PySem PySem.W PyProof.Rows
set_option maxHeartbeats 8000000 in
theorem PySem.Challenge.cw_lg0018_01_holds : PySem.Challenge.rw_lg0018_01.Holds := by
  refine Mine.hd ?_
  k_fill
  intro w s₀ s₁ mg mb G Y fa o pm cd doc dV kV ho hd hcd hD hmg hg args vals as hpre hlay hrd hwl hlo
  have KX := kIn_of Y
  refine Ground.open G ?_
  intro T B D TE TW
  try (refine guard_noD D (by decide +kernel) ?_; clear D)
  clear hd hcd hD
  have em : mg (Str.ofString "law") = some (.ref 98) := mg_of KX T.g (by k_is)
  have ec : mg (Str.ofString "reformat_comment") = some (.ref 60) := mg_of KX T.g (by k_is)
  obtain ⟨bm, ob, M⟩ := bmod_of_top T
  have T' : Mine.TR mg mb s₁.heap := topRead_of T
  have efa : Value.ref fa = .ref 98 := Option.some.inj (hmg.symm.trans em)
  obtain ⟨oc, od, fd, osl, hl60, hcode⟩ : ∃ oc od fd osl, (Mine.hd.heap_39 w.params).lookup 60 = some ⟨oc, od, .func fd, osl⟩ ∧ fd.code = .ref 59 := ⟨_, _, _, _, by k_is, rfl⟩
  obtain ⟨c, P, hc1, B0⟩ := based_of_top T rfl ec (KX 60 _ hl60) rfl
  rw [hcode] at hc1
  cases hc1
  clear hmg em ec hl60 hcode T G Y B TE TW ho
  cases efa
  wrow_args hpre hlay hrd hwl hlo
  refine Mine.law_spec (P := P) ⟨KX, T'⟩ B0 M (.of_eq hg) ?_ rfl ?_ (by assumption) (by assumption) ?_ ?_
  · decide
  · decide
  · omega
  · intro s' hK hG hO
    exact ⟨.inl ⟨_, _, [], rfl, fun _ => rfl, ReadsW.bool true, by first | rfl | wrow_post, fun _ => ⟨List.nodup_nil, fun _ hm => (nomatch hm)⟩⟩, hK, hO, hG⟩

import PyProof.Rows.All
import Wide.All
import OpenK.AllK
import Wide.FinOn
import PySem.Challenge.RW_ev0029_01
set_option Elab.async false
set_option maxRecDepth 100000
set_option maxHeartbeats 8000000
set_option rowWalk.seconds 0
namespace Mine
section
open PySem hiding Frame Kept Outcome run
open PySem.Sre

/-- m runs k turns to m', whatever was seen -/
def Go (k : Nat) (m m' : M) : Prop := ∀ s, ∃ s', M.runFor k { m with seen := s } = { m' with seen := s' }

theorem runFor_add (a b : Nat) (m : M) : M.runFor (a + b) m = M.runFor b (M.runFor a m) := by
  induction a generalizing m with
  | zero => rw [Nat.zero_add]; rfl
  | succ a ih =>
    rw [Nat.succ_add]
    show (if m.outcome.isSome then m else M.runFor (a + b) m.step) = M.runFor b (if m.outcome.isSome then m else M.runFor a m.step)
    split
    · rename_i h
      cases b with
      | zero => rfl
      | succ b => show m = if m.outcome.isSome then m else _; rw [if_pos h]
    · exact ih _
theorem Go.refl (m : M) : Go 0 m m := fun s => ⟨s, rfl⟩
theorem Go.trans {a b : Nat} {m m₁ m₂ : M} (x : Go a m m₁) (y : Go b m₁ m₂) : Go (a + b) m m₂ := fun s => by
  obtain ⟨s₁, e₁⟩ := x s
  obtain ⟨s₂, e₂⟩ := y s₁
  exact ⟨s₂, by rw [runFor_add, e₁, e₂]⟩
theorem Go.step {m m' : M} (h : m.outcome = none) (e : ∀ s, ∃ s', M.step { m with seen := s } = { m' with seen := s' }) : Go 1 m m' := fun s => by
  obtain ⟨s', e⟩ := e s
  refine ⟨s', ?_⟩
  show (if ({ m with seen := s } : M).outcome.isSome then _ else M.runFor 0 _) = _
  rw [if_neg (by show ¬ (m.outcome.isSome = true); rw [h]; decide)]
  exact e

/-- the sign's place in a set of eight words -/
def csHas (ws : List Nat) (c : Nat) : Bool := decide (c < 256) && (ws.getD (c / 32) 0).testBit (c % 32)

def owsCode : Array Nat := #[14, 4, 0, 0, 4294967295, 24, 11, 0, 4294967295, 13, 6, 16, 9, 16, 32, 0, 1, 1]
def tokCode : Array Nat := #[14, 4, 0, 1, 4294967295, 24, 16, 1, 4294967295, 13, 11, 9, 0, 67071226, 3355443198, 1476395007, 0, 0, 0, 0, 0, 1, 1]
def quotableCode : Array Nat := #[14, 4, 0, 0, 4294967295, 24, 16, 0, 4294967295, 13, 11, 9, 512, 4294967295, 4294967295, 2147483647, 4294967295, 4294967295, 4294967295, 4294967295, 0, 1, 1]
def isBlank (c : Nat) : Bool := c == 9 || c == 32
def isMark (c : Nat) : Bool := csHas [0, 67071226, 3355443198, 1476395007, 0, 0, 0, 0] c
def isQp (c : Nat) : Bool := csHas [512, 4294967295, 4294967295, 2147483647, 4294967295, 4294967295, 4294967295, 4294967295] c
def isQd (c : Nat) : Bool := csHas [512, 4294967291, 4026531839, 2147483647, 0, 0, 0, 0] c


theorem op16 : ops[16]? = some .LITERAL := rfl
theorem op0 : ops[0]? = some .FAILURE := rfl
theorem op1 : ops[1]? = some .SUCCESS := rfl
theorem op9 : ops[9]? = some .CHARSET := rfl
theorem op13 : ops[13]? = some .IN := rfl
theorem op24 : ops[24]? = some .REPEAT_ONE := rfl
theorem op23 : ops[23]? = some .REPEAT := rfl
theorem op18 : ops[18]? = some .MAX_UNTIL := rfl
theorem op7 : ops[7]? = some .BRANCH := rfl
theorem op15 : ops[15]? = some .JUMP := rfl
theorem op17 : ops[17]? = some .MARK := rfl
theorem op14 : ops[14]? = some .INFO := rfl
theorem inSet_lit {code : Array Nat} {c f i a : Nat} {yes : Bool} {s : Seen} (h : code.getD i 0 = 16) (ha : code.getD (i + 1) 0 = a) :
    inSet code c (f + 1) i yes s = if c == a then .ok (yes, s.add 16) else inSet code c f (i + 2) yes (s.add 16) := by
  conv => lhs; rw [inSet]
  simp only [Nat.add_zero, h, ha, op16]
theorem inSet_fail {code : Array Nat} {c f i : Nat} {yes : Bool} {s : Seen} (h : code.getD i 0 = 0) :
    inSet code c (f + 1) i yes s = .ok (!yes, s.add 0) := by
  conv => lhs; rw [inSet]
  simp only [Nat.add_zero, h, op0]
theorem inSet_set {code : Array Nat} {c f i : Nat} {yes : Bool} {s : Seen} (h : code.getD i 0 = 9) :
    inSet code c (f + 1) i yes s = if decide (c < 256) && (code.getD (i + (1 + c / 32)) 0).testBit (c % 32) then .ok (yes, s.add 9) else inSet code c f (i + 9) yes (s.add 9) := by
  conv => lhs; rw [inSet]
  simp only [Nat.add_zero, h, op9]
theorem accepts_in {code : Array Nat} {i c : Nat} {s : Seen} (h : code.getD i 0 = 13) : accepts code i c s = inSet code c code.size (i + 2) true s := by
  unfold accepts
  simp only [h, op13]
theorem accepts_two {code : Array Nat} {i c a b : Nat} (h : code.getD i 0 = 13) (h1 : code.getD (i + 2) 0 = 16) (ha : code.getD (i + 3) 0 = a) (h2 : code.getD (i + 4) 0 = 16) (hb : code.getD (i + 5) 0 = b) (h3 : code.getD (i + 6) 0 = 0)
    (hn : ∃ n, code.size = n + 3) (s : Seen) : ∃ s', accepts code i c s = .ok (c == a || c == b, s') := by
  obtain ⟨n, hn⟩ := hn
  rw [accepts_in h, hn, inSet_lit h1 ha]
  cases e : c == a with
  | true => exact ⟨_, rfl⟩
  | false =>
    rw [if_neg Bool.false_ne_true, inSet_lit h2 hb]
    cases e2 : c == b with
    | true => exact ⟨_, rfl⟩
    | false => rw [if_neg Bool.false_ne_true, inSet_fail h3]; exact ⟨_, rfl⟩
theorem accepts_set {code : Array Nat} {i c : Nat} {ws : List Nat} (h : code.getD i 0 = 13) (h1 : code.getD (i + 2) 0 = 9) (h3 : code.getD (i + 11) 0 = 0)
    (hw : ∀ k, k < 8 → code.getD (i + 2 + (1 + k)) 0 = ws.getD k 0) (hn : ∃ n, code.size = n + 2) (s : Seen) : ∃ s', accepts code i c s = .ok (csHas ws c, s') := by
  obtain ⟨n, hn⟩ := hn
  rw [accepts_in h, hn, inSet_set h1]
  have e : (decide (c < 256) && (code.getD (i + 2 + (1 + c / 32)) 0).testBit (c % 32)) = csHas ws c := by
    unfold csHas
    by_cases hc : c < 256
    · rw [hw (c / 32) (by omega)]
    · simp [hc]
  rw [e]
  cases csHas ws c with
  | true => exact ⟨_, rfl⟩
  | false => rw [if_neg Bool.false_ne_true, inSet_fail (by rw [show i + 2 + 9 = i + 11 from rfl]; exact h3)]; exact ⟨_, rfl⟩

theorem ows_accepts (c : Nat) (s : Seen) : ∃ s', accepts owsCode 9 c s = .ok (isBlank c, s') :=
  accepts_two rfl rfl rfl rfl rfl rfl ⟨15, rfl⟩ s
theorem tok_accepts (c : Nat) (s : Seen) : ∃ s', accepts tokCode 9 c s = .ok (isMark c, s') :=
  accepts_set rfl rfl rfl (by decide) ⟨21, rfl⟩ s
theorem quotable_accepts (c : Nat) (s : Seen) : ∃ s', accepts quotableCode 9 c s = .ok (isQp c, s') :=
  accepts_set rfl rfl rfl (by decide) ⟨21, rfl⟩ s

/-- how many signs from p on, n at most, the test takes -/
def runLen (t : Array Nat) (q : Nat → Bool) : Nat → Nat → Nat
  | 0, _ => 0
  | n + 1, p => if q (t.getD p 0) then runLen t q n (p + 1) + 1 else 0
theorem run_eq {code t : Array Nat} {i : Nat} {q : Nat → Bool} (h : ∀ c s, ∃ s', accepts code i c s = .ok (q c, s')) :
    ∀ (n p f : Nat) (s : Seen), ∃ s', Sre.run code t i n p f s = .ok (f + runLen t q n p, s')
  | 0, _, f, s => ⟨s, rfl⟩
  | n + 1, p, f, s => by
    obtain ⟨s₁, e⟩ := h (t.getD p 0) s
    unfold Sre.run
    rw [e]
    show ∃ s', (if q (t.getD p 0) = true then Sre.run code t i n (p + 1) (f + 1) s₁ else pure (f, s₁)) = _
    unfold runLen
    cases q (t.getD p 0) with
    | true =>
      obtain ⟨s₂, e₂⟩ := run_eq h n (p + 1) (f + 1) s₁
      exact ⟨s₂, by rw [if_pos rfl, e₂, if_pos rfl, show f + 1 + runLen t q n (p + 1) = f + (runLen t q n (p + 1) + 1) by omega]⟩
    | false => exact ⟨s₁, rfl⟩
end
section
open PySem hiding Frame Kept Outcome run
open PySem.Sre

theorem step_exec {m : M} (ho : m.outcome = none) (ha : m.answer = none) (hpc : m.pc < m.code.size) : m.step = m.exec := by
  unfold M.step
  rw [ho, ha]
  simp only [Option.isSome_none, Bool.false_eq_true, if_false, if_pos hpc]

theorem go_exec {m m' : M} (ho : m.outcome = none) (ha : m.answer = none) (hpc : m.pc < m.code.size)
    (h : ∀ s, ∃ s', M.exec { m with seen := s } = { m' with seen := s' }) : Go 1 m m' :=
  Go.step ho fun s => by
    obtain ⟨s', e⟩ := h s
    exact ⟨s', (step_exec (m := { m with seen := s }) ho ha hpc).trans e⟩

section
variable {m : M}
theorem go_success (ho : m.outcome = none) (ha : m.answer = none) (hpc : m.pc < m.code.size) (hop : m.code.getD m.pc 0 = 1) :
    Go 1 m (if m.outermost && ((m.wholeText && m.pos != m.lim) || (m.mustAdvance && m.pos == m.start)) then m.say false else ({ m with handed := m.pos } : M).say true) :=
  go_exec ho ha hpc fun s => by
    unfold M.exec
    simp only [M.word, Nat.add_zero, hop, op1]
    split <;> exact ⟨_, rfl⟩


theorem runLen_le (t : Array Nat) (q : Nat → Bool) : ∀ n p, runLen t q n p ≤ n
  | 0, _ => Nat.le_refl _
  | n + 1, p => by
    unfold runLen
    split
    · exact Nat.succ_le_succ (runLen_le t q n (p + 1))
    · exact Nat.zero_le _
theorem go_repone {q : Nat → Bool} {least most : Nat} (ho : m.outcome = none) (ha : m.answer = none) (hpc : m.pc < m.code.size) (hop : m.code.getD m.pc 0 = 24)
    (hl : m.code.getD (m.pc + 2) 0 = least) (hm : m.code.getD (m.pc + 3) 0 = most) (hq : ∀ c s, ∃ s', accepts m.code (m.pc + 4) c s = .ok (q c, s')) (hp : m.pos ≤ m.lim) :
    Go 1 m (if runLen m.text q (min most (m.lim - m.pos)) m.pos < least then m.say false else
      ({ m with pos := m.pos + runLen m.text q (min most (m.lim - m.pos)) m.pos } : M).afterRun .giveBack (runLen m.text q (min most (m.lim - m.pos)) m.pos : Nat) (m.keep m.inner.isSome)) :=
  go_exec ho ha hpc fun s => by
    have hr : ((m.lim : Int) - (m.pos : Int)).toNat = m.lim - m.pos := by omega
    unfold M.exec
    simp only [M.word, Nat.add_zero, hop, op24, hl, hm, hr]
    have hle := runLen_le m.text q (min most (m.lim - m.pos)) m.pos
    by_cases h1 : (least : Int) > (m.lim : Int) - (m.pos : Int)
    · rw [if_pos h1, if_pos (by omega)]
      exact ⟨_, rfl⟩
    · rw [if_neg h1]
      obtain ⟨s₁, e⟩ := run_eq (t := m.text) hq (min most (m.lim - m.pos)) m.pos 0 ((s.add 24).add (m.code.getD (m.pc + 4) 0))
      simp only [Bool.false_eq_true, if_false, e, Nat.zero_add]
      by_cases h2 : runLen m.text q (min most (m.lim - m.pos)) m.pos < least
      · rw [if_pos h2, if_pos h2]
        exact ⟨_, rfl⟩
      · rw [if_neg h2, if_neg h2]
        unfold M.afterRun M.attempt
        by_cases hw : m.weight + 1 + (m.keep m.inner.isSome).marks.size > 16777216
        · rw [if_pos (by exact hw), if_pos (by exact hw)]; exact ⟨s₁, rfl⟩
        · rw [if_neg (by exact hw), if_neg (by exact hw)]; exact ⟨s₁, rfl⟩
/-- the answer goes to the last frame -/
theorem go_resume {f : Frame} {rest : List Frame} {yes : Bool} {m' : M} (ho : m.outcome = none) (ha : m.answer = some yes) (hf : m.frames = f :: rest)
    (h : ∀ s, ∃ s', M.resume { m with answer := none, frames := rest, weight := m.weight - (1 + f.kept.marks.size), pc := f.pc, pos := f.pos, outermost := f.outermost, seen := s } f yes = { m' with seen := s' }) : Go 1 m m' :=
  Go.step ho fun s => by
    obtain ⟨s', e⟩ := h s
    refine ⟨s', ?_⟩
    unfold M.step
    rw [if_neg (by show ¬ (m.outcome.isSome = true); rw [ho]; decide)]
    simp only [ha, hf]
    exact e
theorem go_end {yes : Bool} (ho : m.outcome = none) (ha : m.answer = some yes) (hf : m.frames = []) :
    Go 1 m { m with outcome := some (if yes then .matched else .failed) } :=
  Go.step ho fun s => by
    refine ⟨s, ?_⟩
    unfold M.step
    simp only [ho, ha, hf, Option.isSome_none, Bool.false_eq_true, if_false]
end
/-- a run that ends: the outcome, and the state at it but for what was seen -/
def Halts (k : Nat) (m m' : M) : Prop := Go k m m' ∧ m'.outcome.isSome = true
section
variable {m : M} {f : Frame} {rest : List Frame}
/-- yes passes a frame that only waits for no -/
theorem go_yes (ho : m.outcome = none) (ha : m.answer = some true) (hf : m.frames = f :: rest) (hw : f.wait = .giveBack ∨ f.wait = .nextStart ∨ f.wait = .nextBranch) :
    Go 1 m (({ m with answer := none, frames := rest, weight := m.weight - (1 + f.kept.marks.size), pc := f.pc, pos := f.pos, outermost := f.outermost } : M).say true) :=
  go_resume ho ha hf fun s => by
    obtain ⟨w, a, b, c, d, e, g, i⟩ := f
    rcases hw with rfl | rfl | rfl <;> exact ⟨s, rfl⟩
end

/-- one run of signs: the machine's start for match at p -/
abbrev mStart (code text : Array Nat) (pos lim : Nat) (whole : Bool) (g : Nat) : M :=
  { code, text, lim, start := pos, pc := (header code).2, pos, handed := pos, marks := Array.replicate (2 * g) none, wholeText := whole,
    seen := if (header code).2 == 0 then {} else ({} : Seen).add 14 }
theorem forMatch_eq (code text : Array Nat) (g pos lim : Nat) (whole : Bool) :
    forMatch code text g pos lim whole false = if (header code).1 != 0 && pos ≤ lim && lim - pos < (header code).1 then (mStart code text pos lim whole g).say false else mStart code text pos lim whole g := rfl

/-- what a run must tell: no match -/
def NoMatch (k : Nat) (m : M) : Prop := ∃ m', Go k m m' ∧ m'.outcome = some .failed
/-- what a run must tell: a match from start to handed, these groups -/
def Match (k : Nat) (m : M) (start handed : Nat) (marks : Array (Option Nat)) (lastmark lastindex : Int) : Prop :=
  ∃ m', Go k m m' ∧ m'.outcome = some .matched ∧ m'.start = start ∧ m'.handed = handed ∧ m'.marks = marks ∧ m'.lastmark = lastmark ∧ m'.lastindex = lastindex
theorem NoMatch.say {m : M} (ho : m.outcome = none) (hf : m.frames = []) : NoMatch 1 (m.say false) :=
  ⟨_, go_end (yes := false) ho rfl hf, rfl⟩
theorem NoMatch.after {a b : Nat} {m m₁ : M} (x : Go a m m₁) (y : NoMatch b m₁) : NoMatch (a + b) m := let ⟨m', g, r⟩ := y; ⟨m', x.trans g, r⟩
theorem Match.after {a b : Nat} {m m₁ : M} {s h : Nat} {mk : Array (Option Nat)} {lm li : Int} (x : Go a m m₁) (y : Match b m₁ s h mk lm li) : Match (a + b) m s h mk lm li := let ⟨m', g, r⟩ := y; ⟨m', x.trans g, r⟩

/-- a pattern of one run: the sign 24 at 5, its end at e -/
structure OneRun (code : Array Nat) (q : Nat → Bool) (least : Nat) : Prop where
  hd : header code = (least, 5)
  hop : code.getD 5 0 = 24
  hl : code.getD 7 0 = least
  hm : code.getD 8 0 = 4294967295
  he : code.getD (6 + code.getD 6 0) 0 = 1
  hs : 6 + code.getD 6 0 < code.size
  h5 : 5 < code.size
  hq : ∀ c s, ∃ s', accepts code 9 c s = .ok (q c, s')

/-- a frame that waits to give back, and the success behind it -/
theorem OneRun.match {code : Array Nat} {q : Nat → Bool} {least : Nat} (O : OneRun code q least) {text : Array Nat} {pos lim : Nat} (hp : pos ≤ lim) (hlim : lim ≤ 4294967295) :
    if runLen text q (lim - pos) pos < least then NoMatch 2 (forMatch code text 0 pos lim false false) else Match 4 (forMatch code text 0 pos lim false false) pos (pos + runLen text q (lim - pos) pos) #[] (-1) (-1) := by
  have hmin : min 4294967295 (lim - pos) = lim - pos := by omega
  have hle := runLen_le text q (lim - pos) pos
  have e2 : (header code).2 = 5 := by rw [O.hd]
  have g1 := go_repone (m := mStart code text pos lim false 0) (q := q) (least := least) (most := 4294967295) rfl rfl
    (by show (header code).2 < code.size; rw [O.hd]; exact O.h5) (by show code.getD (header code).2 0 = 24; rw [O.hd]; exact O.hop) (by show code.getD ((header code).2 + 2) 0 = least; rw [O.hd]; exact O.hl) (by show code.getD ((header code).2 + 3) 0 = _; rw [O.hd]; exact O.hm)
    (by show ∀ c s, ∃ s', accepts code ((header code).2 + 4) c s = _; rw [O.hd]; exact O.hq) hp
  simp only [hmin] at g1
  rw [forMatch_eq, O.hd]
  by_cases h : runLen text q (lim - pos) pos < least
  · rw [if_pos h]
    rw [if_pos h] at g1
    split
    · exact ⟨_, (go_end (yes := false) (m := (mStart code text pos lim false 0).say false) rfl rfl rfl).trans (b := 1) (fun s => ⟨s, rfl⟩), rfl⟩
    · exact NoMatch.after g1 (NoMatch.say rfl rfl)
  · rw [if_neg h]
    rw [if_neg h] at g1
    rw [if_neg (by simp; omega)]
    refine Match.after (a := 1) (b := 3) g1 ?_
    generalize runLen text q (lim - pos) pos = n at *
    unfold M.afterRun M.attempt
    rw [if_neg (by show ¬ (0 + 1 + 0 > 16777216); decide)]
    have hpc : (header code).2 + 1 + code.getD ((header code).2 + 1) 0 = 6 + code.getD 6 0 := by rw [e2]
    refine Match.after (a := 1) (b := 2) (go_success rfl rfl (by show (header code).2 + 1 + code.getD ((header code).2 + 1) 0 < code.size; rw [hpc]; exact O.hs) (by show code.getD ((header code).2 + 1 + code.getD ((header code).2 + 1) 0) 0 = 1; rw [hpc]; exact O.he)) ?_
    rw [if_neg (by show ¬ ((true && ((false && _) || (false && _))) = true); simp)]
    refine Match.after (a := 1) (b := 1) (go_yes rfl rfl rfl (.inl rfl)) ?_
    exact ⟨_, go_end (yes := true) rfl rfl rfl, rfl, rfl, rfl, rfl, rfl, rfl⟩

theorem ows_one : OneRun owsCode isBlank 0 := ⟨rfl, rfl, rfl, rfl, rfl, by decide, by decide, ows_accepts⟩
theorem tok_one : OneRun tokCode isMark 1 := ⟨rfl, rfl, rfl, rfl, rfl, by decide, by decide, tok_accepts⟩
theorem quotable_one : OneRun quotableCode isQp 0 := ⟨rfl, rfl, rfl, rfl, rfl, by decide, by decide, quotable_accepts⟩
end
section
open PySem hiding Frame Kept Outcome run
open PySem.Sre
/-- the run that has taken c signs of the text and asks for the end -/
abbrev gbState (text : Array Nat) (lim c : Nat) (h : Nat) : M :=
  { mStart quotableCode text 0 lim true 0 with frames := [{ wait := .giveBack, pc := 5, pos := c, outermost := true, count := c, kept := { lastmark := -1, lastindex := -1, whole := false, marks := #[] } }], weight := 1, pc := 22, pos := c, handed := h }
theorem gb_no (text : Array Nat) (lim : Nat) : ∀ c h, c < lim → NoMatch (2 * c + 3) (gbState text lim c h)
  | 0, h, hc => by
    refine NoMatch.after (a := 1) (b := 2) (go_success rfl rfl (by show 22 < 23; decide) rfl) ?_
    rw [if_pos (by show ((true && ((true && (0 != lim)) || (false && _))) = true); simp; omega)]
    refine NoMatch.after (a := 1) (b := 1) (go_resume (m' := ({ mStart quotableCode text 0 lim true 0 with handed := h } : M).say false) rfl rfl rfl fun s => ⟨s, rfl⟩) ?_
    exact NoMatch.say rfl rfl
  | c + 1, h, hc => by
    rw [show 2 * (c + 1) + 3 = 1 + (1 + (2 * c + 3)) by omega]
    refine NoMatch.after (go_success rfl rfl (by show 22 < 23; decide) rfl) ?_
    rw [if_pos (by show ((true && ((true && (c + 1 != lim)) || (false && _))) = true); simp; omega)]
    refine NoMatch.after (go_resume (m' := gbState text lim c c) rfl rfl rfl fun s => ⟨s, ?_⟩) (gb_no text lim c c (by omega))
    show (if (((c + 1 : Nat) : Int) - 1 < ((0 : Nat) : Int)) then _ else _) = _
    rw [if_neg (by omega)]
    unfold M.afterRun M.attempt
    rw [if_neg (by show ¬ (1 - (1 + 0) + 1 + 0 > 16777216); decide)]
    have e : ((c + 1 : Nat) : Int) - 1 = (c : Nat) := by omega
    simp only [e]
    rfl
theorem Go.more {k j : Nat} {m m' : M} (g : Go k m m') (h : m'.outcome.isSome = true) : Go (k + j) m m' :=
  g.trans (b := j) fun s => ⟨s, by
    cases j with
    | zero => rfl
    | succ j => show (if _ then _ else _) = _; rw [if_pos h]⟩
theorem NoMatch.le {a b : Nat} {m : M} (x : NoMatch a m) (h : a ≤ b) : NoMatch b m := by
  obtain ⟨m', g, r⟩ := x
  obtain ⟨j, rfl⟩ := Nat.le.dest h
  exact ⟨m', g.more (by rw [r]; rfl), r⟩
theorem Match.le {a b : Nat} {m : M} {s h : Nat} {mk : Array (Option Nat)} {lm li : Int} (x : Match a m s h mk lm li) (hab : a ≤ b) : Match b m s h mk lm li := by
  obtain ⟨m', g, r⟩ := x
  obtain ⟨j, rfl⟩ := Nat.le.dest hab
  exact ⟨m', g.more (by rw [r.1]; rfl), r⟩
theorem quotable_full {text : Array Nat} {lim : Nat} (hlim : lim ≤ 4294967295) :
    if runLen text isQp lim 0 < lim then NoMatch (2 * lim + 6) (forMatch quotableCode text 0 0 lim true false) else Match 4 (forMatch quotableCode text 0 0 lim true false) 0 lim #[] (-1) (-1) := by
  have hmin : min 4294967295 (lim - 0) = lim := by omega
  have hle := runLen_le text isQp lim 0
  have g1 := go_repone (m := mStart quotableCode text 0 lim true 0) (q := isQp) (least := 0) (most := 4294967295) rfl rfl (by show 5 < 23; decide) rfl rfl rfl quotable_accepts (Nat.zero_le _)
  simp only [hmin] at g1
  rw [if_neg (Nat.not_lt_zero _)] at g1
  unfold M.afterRun M.attempt at g1
  rw [if_neg (by show ¬ (0 + 1 + 0 > 16777216); decide)] at g1
  rw [show forMatch quotableCode text 0 0 lim true false = mStart quotableCode text 0 lim true 0 from rfl]
  generalize runLen text isQp lim 0 = n at *
  have g2 : Go 1 (mStart quotableCode text 0 lim true 0) (gbState text lim n n) := by
    have e : 0 + n = n := Nat.zero_add n
    intro s
    obtain ⟨s', q⟩ := g1 s
    rw [e] at q
    exact ⟨s', q⟩
  split
  · rename_i h
    exact (NoMatch.after g2 (gb_no text lim n n h)).le (by omega)
  · rename_i h
    obtain rfl : n = lim := by omega
    refine Match.after (b := 3) g2 ?_
    refine Match.after (a := 1) (b := 2) (go_success rfl rfl (by show 22 < 23; decide) rfl) ?_
    rw [if_neg (by show ¬ ((true && ((true && (n != n)) || (false && _))) = true); simp)]
    refine Match.after (a := 1) (b := 1) (go_yes rfl rfl rfl (.inl rfl)) ?_
    exact ⟨_, go_end (yes := true) rfl rfl rfl, rfl, rfl, rfl, rfl, rfl, rfl⟩
end
section
open PySem hiding Frame Kept Outcome run
open PySem.Sre
section
variable {m : M}
theorem attempt_ok {f : Frame} {t p : Nat} {o : Bool} (h : m.weight + 1 + f.kept.marks.size ≤ 16777216) :
    m.attempt f t p o = { m with frames := f :: m.frames, weight := m.weight + 1 + f.kept.marks.size, pc := t, pos := p, handed := p, outermost := o } := if_neg (by omega)
theorem resume_more_no {f : Frame} (hw : f.wait = .maxMore) :
    m.resume f false = (((m.setLoop f.loop fun l => { l with began := f.began }).putBack f.kept).setLoop f.loop fun l => { l with count := f.count - 1 }).afterLoop .maxTail f.loop f.count fun _ => false := by
  obtain ⟨w, a, b, c, d, e, g, i⟩ := f
  cases hw
  rfl
theorem until_more {i least most : Nat} {l : Loop} (hi : m.inner = some i) (hl : m.loopAt i = l) (h2 : m.code.getD (l.pc + 2) 0 = least) (h3 : m.code.getD (l.pc + 3) 0 = most) (c1 : ¬ (l.count + 1 < (least : Int)))
    (c2 : ((decide (l.count + 1 < (most : Int)) || most == maxRepeat) && l.began != some m.pos) = true) : m.until_ true = m.round .maxMore i (l.count + 1) true (m.keep true) := by
  unfold M.until_
  simp only [hi, hl, h2, h3]
  rw [if_neg c1]
  simp only [Bool.not_true, Bool.false_eq_true, if_false]
  rw [if_pos c2]
theorem until_tail {i least most : Nat} {l : Loop} (hi : m.inner = some i) (hl : m.loopAt i = l) (h2 : m.code.getD (l.pc + 2) 0 = least) (h3 : m.code.getD (l.pc + 3) 0 = most) (c1 : ¬ (l.count + 1 < (least : Int)))
    (c2 : ((decide (l.count + 1 < (most : Int)) || most == maxRepeat) && l.began != some m.pos) = false) : m.until_ true = m.afterLoop .maxTail i (l.count + 1) fun _ => false := by
  unfold M.until_
  simp only [hi, hl, h2, h3]
  rw [if_neg c1]
  simp only [Bool.not_true, Bool.false_eq_true, if_false]
  rw [if_neg (by rw [c2]; exact Bool.false_ne_true)]
theorem resume_branch_no {f : Frame} (hw : f.wait = .nextBranch) : m.resume f false = (m.putBack f.kept).alternative (f.pc + m.code.getD f.pc 0) f.kept := by
  obtain ⟨w, a, b, c, d, e, g, i⟩ := f
  cases hw
  rfl
theorem go_repeat (ho : m.outcome = none) (ha : m.answer = none) (hpc : m.pc < m.code.size) (hop : m.code.getD m.pc 0 = 23) (hw : m.weight + 1 ≤ 16777216) :
    Go 1 m { m with loops := m.loops.push { pc := m.pc, outer := m.inner }, inner := some m.loops.size,
                    frames := { wait := .closeLoop, pc := m.pc, pos := m.pos, outermost := m.outermost, loop := m.loops.size } :: m.frames, weight := m.weight + 1, pc := m.pc + 1 + m.code.getD (m.pc + 1) 0, handed := m.pos } :=
  go_exec ho ha hpc fun s => by
    unfold M.exec
    simp only [M.word, Nat.add_zero, hop, op23]
    unfold M.attempt
    rw [if_neg (by show ¬ (m.weight + 1 + 0 > 16777216); omega)]
    exact ⟨_, rfl⟩
theorem op19 : ops[19]? = some .MIN_UNTIL := rfl
theorem go_until (ho : m.outcome = none) (ha : m.answer = none) (hpc : m.pc < m.code.size) (hop : m.code.getD m.pc 0 = 18) {m' : M}
    (h : ∀ s, ∃ s', ({ m with pc := m.pc + 1, seen := s } : M).until_ true = { m' with seen := s' }) : Go 1 m m' :=
  go_exec ho ha hpc fun s => by
    unfold M.exec
    simp only [M.word, Nat.add_zero, hop, op18]
    exact h _
theorem go_jump (ho : m.outcome = none) (ha : m.answer = none) (hpc : m.pc < m.code.size) (hop : m.code.getD m.pc 0 = 15) :
    Go 1 m { m with pc := m.pc + 1 + m.code.getD (m.pc + 1) 0 } :=
  go_exec ho ha hpc fun s => by
    unfold M.exec
    simp only [M.word, Nat.add_zero, hop, op15]
    exact ⟨_, rfl⟩
theorem go_lit {a : Nat} (ho : m.outcome = none) (ha : m.answer = none) (hpc : m.pc < m.code.size) (hop : m.code.getD m.pc 0 = 16) (hx : m.code.getD (m.pc + 1) 0 = a) :
    Go 1 m (if m.pos ≥ m.lim then m.say false else if m.text.getD m.pos 0 == a then { m with pc := m.pc + 2, pos := m.pos + 1 } else m.say false) :=
  go_exec ho ha hpc fun s => by
    have hacc : ∀ s, accepts m.code m.pc (m.text.getD m.pos 0) s = .ok (m.text.getD m.pos 0 == a, s) := fun s => by
      unfold accepts
      simp only [hop, op16, hx]
    have hwid : itemWidth m.code m.pc = 2 := by
      unfold itemWidth
      simp only [hop, op16]
    unfold M.exec
    simp only [M.word, Nat.add_zero, hop, op16]
    by_cases h1 : m.pos ≥ m.lim
    · rw [if_pos h1, if_pos h1]; exact ⟨_, rfl⟩
    · rw [if_neg h1, if_neg h1]
      simp only [hacc, hwid]
      cases e : m.text.getD m.pos 0 == a with
      | true => exact ⟨_, rfl⟩
      | false => exact ⟨_, rfl⟩
theorem go_in {q : Nat → Bool} (ho : m.outcome = none) (ha : m.answer = none) (hpc : m.pc < m.code.size) (hop : m.code.getD m.pc 0 = 13) (hq : ∀ c s, ∃ s', accepts m.code m.pc c s = .ok (q c, s')) :
    Go 1 m (if m.pos ≥ m.lim then m.say false else if q (m.text.getD m.pos 0) then { m with pc := m.pc + (1 + m.code.getD (m.pc + 1) 0), pos := m.pos + 1 } else m.say false) :=
  go_exec ho ha hpc fun s => by
    have hwid : itemWidth m.code m.pc = 1 + m.code.getD (m.pc + 1) 0 := by
      unfold itemWidth
      simp only [hop, op13]
    unfold M.exec
    simp only [M.word, Nat.add_zero, hop, op13]
    by_cases h1 : m.pos ≥ m.lim
    · rw [if_pos h1, if_pos h1]; exact ⟨_, rfl⟩
    · rw [if_neg h1, if_neg h1]
      obtain ⟨s₁, e⟩ := hq (m.text.getD m.pos 0) (s.add 13)
      simp only [hwid]
      rw [e]
      cases q (m.text.getD m.pos 0) with
      | true => exact ⟨s₁, rfl⟩
      | false => exact ⟨s₁, rfl⟩
theorem go_mark (ho : m.outcome = none) (ha : m.answer = none) (hpc : m.pc < m.code.size) (hop : m.code.getD m.pc 0 = 17) : Go 1 m (m.mark (m.code.getD (m.pc + 1) 0)) :=
  go_exec ho ha hpc fun s => by
    unfold M.exec
    simp only [M.word, Nat.add_zero, hop, op17]
    exact ⟨_, rfl⟩
theorem go_branch (ho : m.outcome = none) (ha : m.answer = none) (hpc : m.pc < m.code.size) (hop : m.code.getD m.pc 0 = 7) {m' : M}
    (h : ∀ s, ∃ s', ({ m with seen := s } : M).alternative (m.pc + 1) (m.keep m.inner.isSome) = { m' with seen := s' }) : Go 1 m m' :=
  go_exec ho ha hpc fun s => by
    unfold M.exec
    simp only [M.word, Nat.add_zero, hop, op7]
    exact h _
end

def protoCode : Array Nat := #[14, 4, 0, 1, 4294967295, 24, 16, 1, 4294967295, 13, 11, 9, 0, 67071226, 3355443198, 1476395007, 0, 0, 0, 0, 0, 1, 23, 22, 0, 1, 16, 47, 24, 16, 1, 4294967295, 13, 11, 9, 0, 67071226, 3355443198, 1476395007, 0, 0, 0, 0, 0, 1, 18, 1]
theorem proto_accepts (c : Nat) (s : Seen) : ∃ s', accepts protoCode 9 c s = .ok (isMark c, s') :=
  accepts_set rfl rfl rfl (by decide) ⟨45, rfl⟩ s
theorem proto_accepts2 (c : Nat) (s : Seen) : ∃ s', accepts protoCode 32 c s = .ok (isMark c, s') :=
  accepts_set rfl rfl rfl (by decide) ⟨45, rfl⟩ s

/-- the signs that the second part takes from p on: a stroke and a word, or nothing -/
def tailLen (text : Array Nat) (lim p : Nat) : Nat :=
  if p < lim && text.getD p 0 == 47 && decide (1 ≤ runLen text isMark (lim - (p + 1)) (p + 1)) then 1 + runLen text isMark (lim - (p + 1)) (p + 1) else 0

abbrev k0 : Kept := { lastmark := -1, lastindex := -1, whole := false, marks := #[] }
abbrev k1 : Kept := { lastmark := -1, lastindex := -1, whole := true, marks := #[] }
abbrev pGb (p n : Nat) : Frame := { wait := .giveBack, pc := 5, pos := p, outermost := true, count := n, kept := k0 }
abbrev pCl (p : Nat) : Frame := { wait := .closeLoop, pc := 22, pos := p, outermost := true, loop := 0 }
/-- the tail is asked for at p2, with these frames above -/
abbrev pTail (text : Array Nat) (pos lim p2 h : Nat) (cnt : Int) (began : Option Nat) (fs : List Frame) (w : Nat) : M :=
  { mStart protoCode text pos lim false 0 with pc := 46, pos := p2, handed := h, loops := #[{ pc := 22, count := cnt, began := began, outer := none }], inner := none, frames := fs, weight := w }
/-- yes comes to the loop's frame -/
abbrev pYes (text : Array Nat) (pos lim h : Nat) (l : Loop) (pc p2 : Nat) (inn : Option Nat) (fs : List Frame) (w : Nat) : M :=
  ({ mStart protoCode text pos lim false 0 with pc := pc, pos := p2, handed := h, loops := #[l], inner := inn, frames := fs, weight := w } : M).say true
theorem proto_close {text : Array Nat} {pos lim p n h pc p2 : Nat} {l : Loop} {inn : Option Nat} {w : Nat} :
    Match 3 (pYes text pos lim h l pc p2 inn [pCl p, pGb p n] w) pos h #[] (-1) (-1) := by
  obtain ⟨lpc, lc, lb, lo⟩ := l
  refine Match.after (a := 1) (b := 2) (go_resume (m' := ({ mStart protoCode text pos lim false 0 with pc := 22, pos := p, handed := h, loops := #[], inner := lo, frames := [pGb p n], weight := w - (1 + 0) } : M).say true) rfl rfl rfl fun s => ⟨s, rfl⟩) ?_
  refine Match.after (a := 1) (b := 1) (go_yes rfl rfl rfl (.inl rfl)) ?_
  exact ⟨_, go_end (yes := true) rfl rfl rfl, rfl, rfl, rfl, rfl, rfl, rfl⟩
theorem proto_tail_end {text : Array Nat} {pos lim p n p2 h : Nat} {cnt c2 : Int} {began : Option Nat} {w : Nat} :
    Match 5 (pTail text pos lim p2 h cnt began [{ wait := .maxTail, pc := 46, pos := p2, outermost := true, loop := 0, count := c2, kept := k0 }, pCl p, pGb p n] w) pos p2 #[] (-1) (-1) := by
  refine Match.after (a := 1) (b := 4) (go_success rfl rfl (by show 46 < 47; decide) rfl) ?_
  rw [if_neg (by show ¬ ((true && ((false && _) || (false && _))) = true); simp)]
  exact Match.after (a := 1) (b := 3) (go_resume (m' := pYes text pos lim p2 { pc := 22, count := cnt, began := began, outer := none } 46 p2 (some 0) [pCl p, pGb p n] (w - (1 + 0))) rfl rfl rfl fun s => ⟨s, rfl⟩) proto_close

abbrev pMore (p : Nat) : Frame := { wait := .maxMore, pc := 46, pos := p, outermost := true, count := 0, kept := k1, loop := 0, began := none }
/-- no comes back to the turn of the second part: the tail is asked for at p -/
theorem proto_back {text : Array Nat} {pos lim p n pc p2 h : Nat} {w : Nat} (hw : w ≤ 1000) :
    Match 6 (({ mStart protoCode text pos lim false 0 with pc := pc, pos := p2, handed := h, loops := #[{ pc := 22, count := 0, began := some p, outer := none }], inner := some 0, frames := [pMore p, pCl p, pGb p n], weight := w } : M).say false) pos p #[] (-1) (-1) := by
  refine Match.after (a := 1) (b := 5) (go_resume (m' := pTail text pos lim p p (-1) none [{ wait := .maxTail, pc := 46, pos := p, outermost := true, loop := 0, count := 0, kept := k0 }, pCl p, pGb p n] (w - (1 + 0) + 1 + 0)) rfl rfl rfl fun s => ⟨s, ?_⟩) proto_tail_end
  rw [resume_more_no rfl]
  unfold M.afterLoop
  rw [attempt_ok (by show w - (1 + 0) + 1 + 0 ≤ 16777216; omega)]
  rfl
theorem proto_match {text : Array Nat} {pos lim : Nat} (hp : pos ≤ lim) (hlim : lim ≤ 4294967295) :
    if runLen text isMark (lim - pos) pos < 1 then NoMatch 2 (forMatch protoCode text 0 pos lim false false) else
      Match 40 (forMatch protoCode text 0 pos lim false false) pos (pos + runLen text isMark (lim - pos) pos + tailLen text lim (pos + runLen text isMark (lim - pos) pos)) #[] (-1) (-1) := by
  have hmin : min 4294967295 (lim - pos) = lim - pos := by omega
  have hle := runLen_le text isMark (lim - pos) pos
  have g1 := go_repone (m := mStart protoCode text pos lim false 0) (q := isMark) (least := 1) (most := 4294967295) rfl rfl (by show 5 < 47; decide) rfl rfl rfl proto_accepts hp
  simp only [hmin] at g1
  rw [forMatch_eq]
  by_cases h : runLen text isMark (lim - pos) pos < 1
  · rw [if_pos h]
    rw [if_pos h] at g1
    split
    · exact (NoMatch.say rfl rfl).le (by omega)
    · exact NoMatch.after g1 (NoMatch.say rfl rfl)
  · rw [if_neg h]
    rw [if_neg h] at g1
    rw [if_neg (by show ¬ (((1 != 0) && decide (pos ≤ lim) && decide (lim - pos < 1)) = true); simp; omega)]
    generalize hn : runLen text isMark (lim - pos) pos = n at *
    have hp1 : pos + n ≤ lim := by omega
    generalize hp1' : pos + n = p at *
    unfold M.afterRun M.attempt at g1
    rw [if_neg (by show ¬ (0 + 1 + 0 > 16777216); decide)] at g1
    have g2 : Go 1 (mStart protoCode text pos lim false 0) { mStart protoCode text pos lim false 0 with pc := 22, pos := p, handed := p, frames := [pGb p n], weight := 1 } := by
      intro s
      obtain ⟨s', q⟩ := g1 s
      exact ⟨s', q⟩
    clear g1
    refine Match.le (a := 1 + (1 + (1 + 37))) (Match.after g2 ?_) (by omega)
    refine Match.after (go_repeat rfl rfl (by show 22 < 47; decide) rfl (by show 1 + 1 ≤ 16777216; decide)) ?_
    refine Match.after (go_until (m' := { mStart protoCode text pos lim false 0 with pc := 26, pos := p, handed := p, loops := #[{ pc := 22, count := 0, began := some p, outer := none }], inner := some 0, frames := [pMore p, pCl p, pGb p n], weight := 3 }) rfl rfl (by show 45 < 47; decide) rfl fun s => ⟨s, ?_⟩) ?_
    · rw [until_more (i := 0) (least := 0) (most := 1) (l := { pc := 22, outer := none }) rfl rfl rfl rfl (by decide) rfl]
      unfold M.round
      rw [attempt_ok (by show 2 + 1 + 0 ≤ 16777216; decide)]
      rfl
    refine Match.le (a := 1 + 36) (Match.after (go_lit (a := 47) rfl rfl (by show 26 < 47; decide) rfl rfl) ?_) (by omega)
    have stop : tailLen text lim p = 0 → ∀ pc p2 h, Match 36 (({ mStart protoCode text pos lim false 0 with pc := pc, pos := p2, handed := h, loops := #[{ pc := 22, count := 0, began := some p, outer := none }], inner := some 0, frames := [pMore p, pCl p, pGb p n], weight := 3 } : M).say false) pos (p + tailLen text lim p) #[] (-1) (-1) :=
      fun e pc p2 h => by rw [e]; exact (proto_back (by omega)).le (by omega)
    unfold tailLen at stop ⊢
    by_cases h1 : p ≥ lim
    · rw [if_pos (by exact h1)]
      exact stop (by rw [if_neg (by simp; omega)]) _ _ _
    · rw [if_neg (by exact h1)]
      cases h2 : text.getD p 0 == 47 with
      | false =>
        rw [if_neg (by exact Bool.false_ne_true)]
        rw [h2] at stop
        have e : (decide (p < lim) && false && decide (1 ≤ runLen text isMark (lim - (p + 1)) (p + 1))) = false := by simp
        simp only [e, Bool.false_eq_true, if_false] at stop ⊢
        exact stop trivial _ _ _
      | true =>
        rw [if_pos (by rfl)]
        rw [h2] at stop
        have hlt : decide (p < lim) = true := by simp; omega
        simp only [hlt, Bool.true_and] at stop ⊢
        have hmin2 : min 4294967295 (lim - (p + 1)) = lim - (p + 1) := by omega
        have hle2 := runLen_le text isMark (lim - (p + 1)) (p + 1)
        have g3 := go_repone (m := { mStart protoCode text pos lim false 0 with pc := 28, pos := p + 1, handed := p, loops := #[{ pc := 22, count := 0, began := some p, outer := none }], inner := some 0, frames := [pMore p, pCl p, pGb p n], weight := 3 })
          (q := isMark) (least := 1) (most := 4294967295) rfl rfl (by show 28 < 47; decide) rfl rfl rfl proto_accepts2 (by show p + 1 ≤ lim; omega)
        simp only [hmin2] at g3
        refine Match.le (a := 1 + 35) (Match.after g3 ?_) (by omega)
        by_cases h3 : runLen text isMark (lim - (p + 1)) (p + 1) < 1
        · rw [if_pos h3]
          have e : decide (1 ≤ runLen text isMark (lim - (p + 1)) (p + 1)) = false := by simp; omega
          simp only [e, Bool.false_eq_true, if_false] at stop ⊢
          exact (proto_back (by omega)).le (by omega)
        · rw [if_neg h3]
          have e : decide (1 ≤ runLen text isMark (lim - (p + 1)) (p + 1)) = true := by simp; omega
          simp only [e, if_true]
          generalize runLen text isMark (lim - (p + 1)) (p + 1) = n2 at *
          unfold M.afterRun
          rw [attempt_ok (by show 3 + 1 + 0 ≤ 16777216; decide)]
          rw [show p + (1 + n2) = p + 1 + n2 by omega]
          refine Match.le (a := 1 + (1 + (1 + (1 + (1 + 3))))) ?_ (by omega)
          refine Match.after (go_until (m' := { mStart protoCode text pos lim false 0 with pc := 46, pos := p + 1 + n2, handed := p + 1 + n2, loops := #[{ pc := 22, count := 0, began := some p, outer := none }], inner := none, frames := [{ wait := .maxTail, pc := 46, pos := p + 1 + n2, outermost := true, loop := 0, count := 1, kept := k0 }, { wait := .giveBack, pc := 28, pos := p + 1 + n2, outermost := true, count := n2, kept := k1 }, pMore p, pCl p, pGb p n], weight := 5 }) rfl rfl (by show 45 < 47; decide) rfl fun s => ⟨s, ?_⟩) ?_
          · rw [until_tail (i := 0) (least := 0) (most := 1) (l := { pc := 22, count := 0, began := some p, outer := none }) rfl rfl rfl rfl (by show ¬ ((0 : Int) + 1 < 0); decide) rfl]
            unfold M.afterLoop
            rw [attempt_ok (by show 4 + 1 + 0 ≤ 16777216; decide)]
            rfl
          refine Match.after (go_success rfl rfl (by show 46 < 47; decide) rfl) ?_
          rw [if_neg (by show ¬ ((true && ((false && _) || (false && _))) = true); simp)]
          refine Match.after (go_resume (m' := ({ mStart protoCode text pos lim false 0 with pc := 46, pos := p + 1 + n2, handed := p + 1 + n2, loops := #[{ pc := 22, count := 0, began := some p, outer := none }], inner := some 0, frames := [{ wait := .giveBack, pc := 28, pos := p + 1 + n2, outermost := true, count := n2, kept := k1 }, pMore p, pCl p, pGb p n], weight := 4 } : M).say true) rfl rfl rfl fun s => ⟨s, rfl⟩) ?_
          refine Match.after (go_yes rfl rfl rfl (.inl rfl)) ?_
          exact Match.after (go_resume (m' := pYes text pos lim (p + 1 + n2) { pc := 22, count := 0, began := none, outer := none } 46 p (some 0) [pCl p, pGb p n] 2) rfl rfl rfl fun s => ⟨s, rfl⟩) proto_close
end
section
open PySem hiding Frame Kept Outcome run
open PySem.Sre
def qsCode : Array Nat := #[14, 8, 1, 2, 4294967295, 1, 1, 34, 0, 16, 34, 23, 37, 0, 4294967295, 7, 15, 13, 11, 9, 512, 4294967291, 4026531839, 2147483647, 0, 0, 0, 0, 0, 15, 19, 17, 16, 92, 13, 11, 9, 512, 4294967295, 4294967295, 2147483647, 4294967295, 4294967295, 4294967295, 4294967295, 0, 15, 2, 0, 18, 16, 34, 1]
theorem qs_accepts1 (c : Nat) (s : Seen) : ∃ s', accepts qsCode 17 c s = .ok (isQd c, s') :=
  accepts_set rfl rfl rfl (by decide) ⟨51, rfl⟩ s
theorem qs_accepts2 (c : Nat) (s : Seen) : ∃ s', accepts qsCode 34 c s = .ok (isQp c, s') :=
  accepts_set rfl rfl rfl (by decide) ⟨51, rfl⟩ s
theorem qd_not (c : Nat) (h : isQd c = true) : c ≠ 34 ∧ c ≠ 92 := by
  have key : ∀ c, c < 256 → isQd c = true → c ≠ 34 ∧ c ≠ 92 := by decide +kernel
  by_cases hc : c < 256
  · exact key c hc h
  · unfold isQd csHas at h
    simp [hc] at h

/-- where a quoted text that is open at p ends; none: it does not -/
def qScan (text : Array Nat) (lim : Nat) : Nat → Nat → Option Nat
  | 0, _ => none
  | f + 1, p =>
    if p < lim then
      if isQd (text.getD p 0) then qScan text lim f (p + 1)
      else if text.getD p 0 == 92 && decide (p + 1 < lim) && isQp (text.getD (p + 1) 0) then qScan text lim f (p + 2)
      else if text.getD p 0 == 34 then some (p + 1) else none
    else none

def bg : List (Nat × Bool) → Option Nat
  | [] => none
  | x :: _ => some x.1
abbrev nb (p : Nat) (a : Bool) : Frame := { wait := .nextBranch, pc := if a then 16 else 31, pos := p, outermost := true, kept := k1 }
abbrev mm (p k : Nat) (b : Option Nat) : Frame := { wait := .maxMore, pc := 50, pos := p, outermost := true, count := (k : Nat), kept := k1, loop := 0, began := b }
abbrev qcl (p : Nat) : Frame := { wait := .closeLoop, pc := 11, pos := p, outermost := true, loop := 0 }
def fr (p0 : Nat) : List (Nat × Bool) → List Frame
  | [] => [qcl p0]
  | x :: r => nb x.1 x.2 :: mm x.1 r.length (bg r) :: fr p0 r
/-- the machine within the loop -/
abbrev qM (text : Array Nat) (pos lim : Nat) (pc p h : Nat) (cnt : Int) (b : Option Nat) (inn : Option Nat) (fs : List Frame) (w : Nat) : M :=
  { mStart qsCode text pos lim false 0 with pc := pc, pos := p, handed := h, loops := #[{ pc := 11, count := cnt, began := b, outer := none }], inner := inn, frames := fs, weight := w }

section
variable {text : Array Nat} {pos lim p0 : Nat}
/-- asked for the tail at p, the turns its behind it -/
abbrev qT (text : Array Nat) (pos lim p0 : Nat) (its : List (Nat × Bool)) (p : Nat) : M :=
  qM text pos lim 50 p p ((its.length : Int) - 1) (bg its) none ({ wait := .maxTail, pc := 50, pos := p, outermost := true, loop := 0, count := (its.length : Nat), kept := k0 } :: fr p0 its) (1 + 2 * its.length + 1)
theorem q_more_no {its : List (Nat × Bool)} {p pc q h : Nat} {cnt : Int} {b inn : Option Nat} (hw : its.length ≤ 100000) :
    Go 1 ((qM text pos lim pc q h cnt b inn (mm p its.length (bg its) :: fr p0 its) (1 + 2 * its.length + 1)).say false) (qT text pos lim p0 its p) :=
  go_resume rfl rfl rfl fun s => ⟨s, by
    rw [resume_more_no rfl]
    unfold M.afterLoop
    rw [attempt_ok (by show 1 + 2 * its.length + 1 - (1 + 0) + 1 + 0 ≤ 16777216; omega)]
    rfl⟩
theorem q_tail_no {its : List (Nat × Bool)} {p : Nat} (ht : p ≥ lim ∨ (text.getD p 0 == 34) = false) :
    Go 2 (qT text pos lim p0 its p) ((qM text pos lim 50 p p ((its.length : Int) - 1) (bg its) (some 0) (fr p0 its) (1 + 2 * its.length)).say false) := by
  have g := go_lit (m := qT text pos lim p0 its p) (a := 34) rfl rfl (by show 50 < 53; decide) rfl rfl
  have e : (if (qT text pos lim p0 its p).pos ≥ (qT text pos lim p0 its p).lim then (qT text pos lim p0 its p).say false else
      if (qT text pos lim p0 its p).text.getD (qT text pos lim p0 its p).pos 0 == 34 then { qT text pos lim p0 its p with pc := 50 + 2, pos := p + 1 } else (qT text pos lim p0 its p).say false) = (qT text pos lim p0 its p).say false := by
    split
    · rfl
    · rename_i h1
      rcases ht with ht | ht
      · exact absurd ht h1
      · rw [if_neg (by show ¬ ((text.getD p 0 == 34) = true); rw [ht]; exact Bool.false_ne_true)]
  have g' : Go 1 (qT text pos lim p0 its p) ((qT text pos lim p0 its p).say false) := e ▸ g
  exact g'.trans (b := 1) (go_resume rfl rfl rfl fun s => ⟨s, rfl⟩)
theorem q_yes : ∀ {its : List (Nat × Bool)} {pc q h : Nat} {l : Loop} {inn : Option Nat} {w : Nat},
    Match (2 * its.length + 2) (({ mStart qsCode text pos lim false 0 with pc := pc, pos := q, handed := h, loops := #[l], inner := inn, frames := fr p0 its, weight := w } : M).say true) pos h #[] (-1) (-1)
  | [], pc, q, h, ⟨lpc, lc, lb, lo⟩, inn, w => by
    refine Match.after (a := 1) (b := 1) (go_resume (m' := ({ mStart qsCode text pos lim false 0 with pc := 11, pos := p0, handed := h, loops := #[], inner := lo, frames := [], weight := w - (1 + 0) } : M).say true) rfl rfl rfl fun s => ⟨s, rfl⟩) ?_
    exact ⟨_, go_end (yes := true) rfl rfl rfl, rfl, rfl, rfl, rfl, rfl, rfl⟩
  | x :: r, pc, q, h, ⟨lpc, lc, lb, lo⟩, inn, w => by
    rw [show 2 * (x :: r).length + 2 = 1 + (1 + (2 * r.length + 2)) by rw [List.length_cons]; omega]
    refine Match.after (go_yes rfl rfl rfl (.inr (.inr rfl))) ?_
    refine Match.after (go_resume (m' := ({ mStart qsCode text pos lim false 0 with pc := 50, pos := x.1, handed := h, loops := #[{ pc := lpc, count := lc, began := bg r, outer := lo }], inner := inn, frames := fr p0 r, weight := w - (1 + 0) - (1 + 0) } : M).say true) rfl rfl rfl fun s => ⟨s, rfl⟩) ?_
    exact q_yes
/-- what the turns behind tell of their signs -/
def Its (text : Array Nat) : List (Nat × Bool) → Prop
  | [] => True
  | x :: r => (text.getD x.1 0 == 34) = false ∧ (x.2 = true → (text.getD x.1 0 == 92) = false) ∧ Its text r
abbrev qU (text : Array Nat) (pos lim p0 : Nat) (its : List (Nat × Bool)) (p h : Nat) : M :=
  qM text pos lim 49 p h ((its.length : Int) - 1) (bg its) (some 0) (fr p0 its) (1 + 2 * its.length)

/-- the second way is asked at p -/
abbrev qAlt2 (text : Array Nat) (pos lim p0 : Nat) (its : List (Nat × Bool)) (p : Nat) (cnt : Int) (b inn : Option Nat) : M :=
  qM text pos lim 32 p p cnt b inn (nb p false :: mm p its.length (bg its) :: fr p0 its) (1 + 2 * (its.length + 1))
/-- no from the second way: the tail at p -/
theorem q_alt2_no {its : List (Nat × Bool)} {p pc q h : Nat} {cnt : Int} {b inn : Option Nat} (hw : its.length ≤ 100000) :
    Go 2 ((qM text pos lim pc q h cnt b inn (nb p false :: mm p its.length (bg its) :: fr p0 its) (1 + 2 * (its.length + 1))).say false) (qT text pos lim p0 its p) :=
  Go.trans (a := 1) (b := 1) (go_resume (m' := (qM text pos lim 31 p h cnt b inn (mm p its.length (bg its) :: fr p0 its) (1 + 2 * its.length + 1)).say false) rfl rfl rfl fun s => ⟨s, by
    rw [resume_branch_no rfl]
    rfl⟩) (q_more_no hw)
/-- no from the first way: the second -/
theorem q_alt1_no {its : List (Nat × Bool)} {p pc q h : Nat} {cnt : Int} {b inn : Option Nat} (hw : its.length ≤ 100000) :
    Go 1 ((qM text pos lim pc q h cnt b inn (nb p true :: mm p its.length (bg its) :: fr p0 its) (1 + 2 * (its.length + 1))).say false) (qAlt2 text pos lim p0 its p cnt b inn) :=
  go_resume rfl rfl rfl fun s => ⟨s, by
    rw [resume_branch_no rfl]
    unfold M.alternative
    rw [if_neg (by exact Bool.false_ne_true), attempt_ok (by show 1 + 2 * (its.length + 1) - (1 + 0) + 1 + 0 ≤ 16777216; omega)]
    rfl⟩
theorem q_lit_no {its : List (Nat × Bool)} {p : Nat} {cnt : Int} {b inn : Option Nat} (ht : p ≥ lim ∨ (text.getD p 0 == 92) = false) :
    Go 1 (qAlt2 text pos lim p0 its p cnt b inn) ((qAlt2 text pos lim p0 its p cnt b inn).say false) := by
  have g := go_lit (m := qAlt2 text pos lim p0 its p cnt b inn) (a := 92) rfl rfl (by show 32 < 53; decide) rfl rfl
  by_cases h : p ≥ lim
  · rw [if_pos (by exact h)] at g; exact g
  · rw [if_neg (by exact h)] at g
    rcases ht with ht | ht
    · exact absurd ht h
    · rw [if_neg (by show ¬ ((text.getD p 0 == 92) = true); rw [ht]; exact Bool.false_ne_true)] at g
      exact g

theorem q_no : ∀ {its : List (Nat × Bool)} {pc q h : Nat} {cnt : Int} {b : Option Nat}, its.length ≤ 100000 → Its text its →
    NoMatch (8 * its.length + 2) ((qM text pos lim pc q h cnt b (some 0) (fr p0 its) (1 + 2 * its.length)).say false)
  | [], pc, q, h, cnt, b, _, _ => by
    refine NoMatch.after (a := 1) (b := 1) (go_resume (m' := ({ mStart qsCode text pos lim false 0 with pc := 11, pos := p0, handed := h, loops := #[], inner := none, frames := [], weight := 0 } : M).say false) rfl rfl rfl fun s => ⟨s, rfl⟩) ?_
    exact NoMatch.say rfl rfl
  | (p, a) :: r, pc, q, h, cnt, b, hw, ⟨h34, h92, hr⟩ => by
    have hw' : r.length ≤ 100000 := by rw [List.length_cons] at hw; omega
    have tail : ∀ {pc q h : Nat} {cnt : Int} {b inn : Option Nat}, NoMatch (8 * r.length + 2 + 4) ((qM text pos lim pc q h cnt b inn (nb p false :: mm p r.length (bg r) :: fr p0 r) (1 + 2 * (r.length + 1))).say false) := by
      intro pc q h cnt b inn
      refine NoMatch.le (a := 2 + (2 + (8 * r.length + 2))) (NoMatch.after (q_alt2_no hw') (NoMatch.after (q_tail_no (.inr h34)) (q_no hw' hr))) (by omega)
    cases a with
    | false => exact tail.le (by rw [List.length_cons]; omega)
    | true =>
      refine NoMatch.le (a := 1 + (1 + (8 * r.length + 2 + 4))) (NoMatch.after (q_alt1_no hw') (NoMatch.after (q_lit_no (.inr (h92 rfl))) ?_)) (by rw [List.length_cons]; omega)
      exact tail

/-- a turn begins -/
theorem q_turn {its : List (Nat × Bool)} {p h : Nat} (hw : its.length ≤ 100000) (hb : bg its ≠ some p) :
    Go 2 (qU text pos lim p0 its p h) (qM text pos lim 17 p p (its.length : Int) (some p) (some 0) (nb p true :: mm p its.length (bg its) :: fr p0 its) (1 + 2 * (its.length + 1))) := by
  refine Go.trans (a := 1) (b := 1) (m₁ := qM text pos lim 15 p p (its.length : Int) (some p) (some 0) (mm p its.length (bg its) :: fr p0 its) (1 + 2 * its.length + 1)) ?_ ?_
  · refine go_until rfl rfl (by show 49 < 53; decide) rfl fun s => ⟨s, ?_⟩
    have e : (its.length : Int) - 1 + 1 = its.length := by omega
    rw [until_more (i := 0) (least := 0) (most := 4294967295) (l := { pc := 11, count := (its.length : Int) - 1, began := bg its, outer := none }) rfl rfl rfl rfl (by show ¬ ((its.length : Int) - 1 + 1 < 0); omega)
      (by show ((decide _ || true) && (bg its != some p)) = true; rw [Bool.or_true, Bool.true_and]; simpa using hb)]
    unfold M.round
    rw [attempt_ok (by show 1 + 2 * its.length + 1 + 0 ≤ 16777216; omega)]
    simp only [e]
    rfl
  · refine go_branch rfl rfl (by show 15 < 53; decide) rfl fun s => ⟨s, ?_⟩
    unfold M.alternative
    rw [if_neg (by exact Bool.false_ne_true), attempt_ok (by show 1 + 2 * its.length + 1 + 1 + 0 ≤ 16777216; omega)]
    rfl
theorem q_in_no {its : List (Nat × Bool)} {p : Nat} {cnt : Int} {b : Option Nat} (ht : p ≥ lim ∨ isQd (text.getD p 0) = false) :
    Go 1 (qM text pos lim 17 p p cnt b (some 0) (nb p true :: mm p its.length (bg its) :: fr p0 its) (1 + 2 * (its.length + 1)))
      ((qM text pos lim 17 p p cnt b (some 0) (nb p true :: mm p its.length (bg its) :: fr p0 its) (1 + 2 * (its.length + 1))).say false) := by
  have g := go_in (m := qM text pos lim 17 p p cnt b (some 0) (nb p true :: mm p its.length (bg its) :: fr p0 its) (1 + 2 * (its.length + 1))) (q := isQd) rfl rfl (by show 17 < 53; decide) rfl qs_accepts1
  by_cases h : p ≥ lim
  · rw [if_pos (by exact h)] at g; exact g
  · rw [if_neg (by exact h)] at g
    rcases ht with ht | ht
    · exact absurd ht h
    · rw [if_neg (by show ¬ (isQd (text.getD p 0) = true); rw [ht]; exact Bool.false_ne_true)] at g
      exact g
/-- a plain sign -/
theorem q_plain {its : List (Nat × Bool)} {p h : Nat} (hw : its.length ≤ 100000) (hb : bg its ≠ some p) (hl : p < lim) (hq : isQd (text.getD p 0) = true) :
    Go 4 (qU text pos lim p0 its p h) (qU text pos lim p0 ((p, true) :: its) (p + 1) p) := by
  refine Go.trans (a := 2) (b := 2) (q_turn hw hb) ?_
  have g := go_in (m := qM text pos lim 17 p p (its.length : Int) (some p) (some 0) (nb p true :: mm p its.length (bg its) :: fr p0 its) (1 + 2 * (its.length + 1))) (q := isQd) rfl rfl (by show 17 < 53; decide) rfl qs_accepts1
  rw [if_neg (by show ¬ (p ≥ lim); omega), if_pos (by exact hq)] at g
  refine Go.trans (a := 1) (b := 1) g ?_
  have g2 := go_jump (m := qM text pos lim 29 (p + 1) p (its.length : Int) (some p) (some 0) (nb p true :: mm p its.length (bg its) :: fr p0 its) (1 + 2 * (its.length + 1))) rfl rfl (by show 29 < 53; decide) rfl
  have e : (((p, true) :: its).length : Int) - 1 = its.length := by rw [List.length_cons]; omega
  unfold qU
  rw [e]
  exact g2
/-- to the second way -/
theorem q_second {its : List (Nat × Bool)} {p h : Nat} (hw : its.length ≤ 100000) (hb : bg its ≠ some p) (hq : p ≥ lim ∨ isQd (text.getD p 0) = false) :
    Go 4 (qU text pos lim p0 its p h) (qAlt2 text pos lim p0 its p (its.length : Int) (some p) (some 0)) :=
  Go.trans (a := 2) (b := 2) (q_turn hw hb) (Go.trans (a := 1) (b := 1) (q_in_no hq) (q_alt1_no hw))
/-- an escaped sign -/
theorem q_escaped {its : List (Nat × Bool)} {p h : Nat} (hw : its.length ≤ 100000) (hb : bg its ≠ some p) (hl : p + 1 < lim) (h1 : isQd (text.getD p 0) = false) (h2 : (text.getD p 0 == 92) = true) (h3 : isQp (text.getD (p + 1) 0) = true) :
    Go 7 (qU text pos lim p0 its p h) (qU text pos lim p0 ((p, false) :: its) (p + 2) p) := by
  refine Go.trans (a := 4) (b := 3) (q_second hw hb (.inr h1)) ?_
  have g := go_lit (m := qAlt2 text pos lim p0 its p (its.length : Int) (some p) (some 0)) (a := 92) rfl rfl (by show 32 < 53; decide) rfl rfl
  rw [if_neg (by show ¬ (p ≥ lim); omega), if_pos (by exact h2)] at g
  refine Go.trans (a := 1) (b := 2) g ?_
  have g1 := go_in (m := qM text pos lim 34 (p + 1) p (its.length : Int) (some p) (some 0) (nb p false :: mm p its.length (bg its) :: fr p0 its) (1 + 2 * (its.length + 1))) (q := isQp) rfl rfl (by show 34 < 53; decide) rfl qs_accepts2
  rw [if_neg (by show ¬ (p + 1 ≥ lim); omega), if_pos (by exact h3)] at g1
  refine Go.trans (a := 1) (b := 1) g1 ?_
  have g2 := go_jump (m := qM text pos lim 46 (p + 2) p (its.length : Int) (some p) (some 0) (nb p false :: mm p its.length (bg its) :: fr p0 its) (1 + 2 * (its.length + 1))) rfl rfl (by show 46 < 53; decide) rfl
  have e : (((p, false) :: its).length : Int) - 1 = its.length := by rw [List.length_cons]; omega
  unfold qU
  rw [e]
  exact g2
/-- neither way: the tail -/
theorem q_neither {its : List (Nat × Bool)} {p h : Nat} (hw : its.length ≤ 100000) (hb : bg its ≠ some p) (h1 : p ≥ lim ∨ isQd (text.getD p 0) = false)
    (h2 : p ≥ lim ∨ (text.getD p 0 == 92) = false ∨ p + 1 ≥ lim ∨ isQp (text.getD (p + 1) 0) = false) : ∃ k, k ≤ 8 ∧ Go k (qU text pos lim p0 its p h) (qT text pos lim p0 its p) := by
  by_cases h3 : p ≥ lim ∨ (text.getD p 0 == 92) = false
  · exact ⟨_, (by decide : 4 + (1 + 2) ≤ 8), Go.trans (q_second hw hb h1) (Go.trans (q_lit_no h3) (q_alt2_no hw))⟩
  · have h4 : p < lim := by omega
    have h5 : (text.getD p 0 == 92) = true := by
      cases e : text.getD p 0 == 92 with
      | true => rfl
      | false => exact absurd (.inr e) h3
    have g := go_lit (m := qAlt2 text pos lim p0 its p (its.length : Int) (some p) (some 0)) (a := 92) rfl rfl (by show 32 < 53; decide) rfl rfl
    rw [if_neg (by show ¬ (p ≥ lim); omega), if_pos (by exact h5)] at g
    have g1 := go_in (m := qM text pos lim 34 (p + 1) p (its.length : Int) (some p) (some 0) (nb p false :: mm p its.length (bg its) :: fr p0 its) (1 + 2 * (its.length + 1))) (q := isQp) rfl rfl (by show 34 < 53; decide) rfl qs_accepts2
    have g2 : Go 1 (qM text pos lim 34 (p + 1) p (its.length : Int) (some p) (some 0) (nb p false :: mm p its.length (bg its) :: fr p0 its) (1 + 2 * (its.length + 1)))
        ((qM text pos lim 34 (p + 1) p (its.length : Int) (some p) (some 0) (nb p false :: mm p its.length (bg its) :: fr p0 its) (1 + 2 * (its.length + 1))).say false) := by
      by_cases h6 : p + 1 ≥ lim
      · rw [if_pos (by exact h6)] at g1; exact g1
      · rw [if_neg (by exact h6)] at g1
        have h7 : isQp (text.getD (p + 1) 0) = false := by
          rcases h2 with h | h | h | h
          · omega
          · rw [h5] at h; cases h
          · omega
          · exact h
        rw [if_neg (by show ¬ (isQp (text.getD (p + 1) 0) = true); rw [h7]; exact Bool.false_ne_true)] at g1
        exact g1
    exact ⟨_, (by decide : 4 + (1 + (1 + 2)) ≤ 8), Go.trans (q_second hw hb h1) (Go.trans g (Go.trans g2 (q_alt2_no hw)))⟩

theorem q_loop : ∀ (f : Nat) {its : List (Nat × Bool)} {p h : Nat}, lim - p < f → its.length + f ≤ 100000 → Its text its → (∀ b, bg its = some b → b < p) →
    match qScan text lim f p with
    | some e => Match (20 * f + 10 * its.length + 20) (qU text pos lim p0 its p h) pos e #[] (-1) (-1)
    | none => NoMatch (20 * f + 10 * its.length + 20) (qU text pos lim p0 its p h)
  | 0, _, _, _, h, _, _, _ => absurd h (Nat.not_lt_zero _)
  | f + 1, its, p, h, hf, hw, hI, hb => by
    have hb' : bg its ≠ some p := fun e => Nat.lt_irrefl _ (hb p e)
    have hw1 : its.length ≤ 100000 := by omega
    unfold qScan
    by_cases hl : p < lim
    · rw [if_pos hl]
      cases h1 : isQd (text.getD p 0) with
      | true =>
        rw [if_pos rfl]
        have hn := qd_not _ h1
        have ih := q_loop f (its := (p, true) :: its) (p := p + 1) (h := p) (by omega) (by rw [List.length_cons]; omega) ⟨by simpa using hn.1, fun _ => by simpa using hn.2, hI⟩ (fun b e => by cases e; exact Nat.lt_succ_self _)
        have g := q_plain (text := text) (pos := pos) (p0 := p0) (h := h) hw1 hb' hl h1
        split at ih
        · exact (Match.after g ih).le (by rw [List.length_cons]; omega)
        · exact (NoMatch.after g ih).le (by rw [List.length_cons]; omega)
      | false =>
        rw [if_neg Bool.false_ne_true]
        by_cases h2 : ((text.getD p 0 == 92 && decide (p + 1 < lim)) && isQp (text.getD (p + 1) 0)) = true
        · rw [if_pos h2]
          have h2' := h2
          simp only [Bool.and_eq_true, decide_eq_true_eq] at h2'
          obtain ⟨⟨h3, h4⟩, h5⟩ := h2'
          have h34 : (text.getD p 0 == 34) = false := by
            rw [beq_iff_eq.mp h3]; rfl
          have ih := q_loop f (its := (p, false) :: its) (p := p + 2) (h := p) (by omega) (by rw [List.length_cons]; omega) ⟨h34, (fun e => nomatch e), hI⟩ (fun b e => by cases e; omega)
          have g := q_escaped (text := text) (pos := pos) (p0 := p0) (h := h) hw1 hb' h4 h1 h3 h5
          split at ih
          · exact (Match.after g ih).le (by rw [List.length_cons]; omega)
          · exact (NoMatch.after g ih).le (by rw [List.length_cons]; omega)
        · rw [if_neg h2]
          obtain ⟨k, hk, g⟩ := q_neither (text := text) (lim := lim) (pos := pos) (p0 := p0) (h := h) hw1 hb' (.inr h1) (by
            cases e3 : text.getD p 0 == 92 with
            | false => exact .inr (.inl rfl)
            | true =>
              rw [e3] at h2
              by_cases e4 : p + 1 < lim
              · cases e5 : isQp (text.getD (p + 1) 0) with
                | false => exact .inr (.inr (.inr rfl))
                | true => rw [e5] at h2; simp [e4] at h2
              · exact .inr (.inr (.inl (by omega))))
          cases h3 : text.getD p 0 == 34 with
          | false =>
            rw [if_neg Bool.false_ne_true]
            exact NoMatch.le (a := k + (2 + (8 * its.length + 2))) (NoMatch.after g (NoMatch.after (q_tail_no (.inr h3)) (q_no hw1 hI))) (by omega)
          | true =>
            rw [if_pos rfl]
            have g1 := go_lit (m := qT text pos lim p0 its p) (a := 34) rfl rfl (by show 50 < 53; decide) rfl rfl
            rw [if_neg (by show ¬ (p ≥ lim); omega), if_pos (by exact h3)] at g1
            have g2 := go_success (m := { qT text pos lim p0 its p with pc := 52, pos := p + 1 }) rfl rfl (by show 52 < 53; decide) rfl
            rw [if_neg (by show ¬ ((true && ((false && _) || (false && _))) = true); simp)] at g2
            have g3 : Go 1 ({ qT text pos lim p0 its p with pc := 52, pos := p + 1, handed := p + 1, answer := some true } : M)
                ((qM text pos lim 50 p (p + 1) ((its.length : Int) - 1) (bg its) (some 0) (fr p0 its) (1 + 2 * its.length + 1 - (1 + 0))).say true) := go_resume rfl rfl rfl fun s => ⟨s, rfl⟩
            exact Match.le (a := k + (1 + (1 + (1 + (2 * its.length + 2))))) (Match.after g (Match.after g1 (Match.after g2 (Match.after g3 q_yes)))) (by omega)
    · rw [if_neg hl]
      obtain ⟨k, hk, g⟩ := q_neither (text := text) (lim := lim) (pos := pos) (p0 := p0) (h := h) hw1 hb' (.inl (by omega)) (.inl (by omega))
      exact NoMatch.le (a := k + (2 + (8 * its.length + 2))) (NoMatch.after g (NoMatch.after (q_tail_no (.inl (by omega))) (q_no hw1 hI))) (by omega)

/-- what the pattern takes from pos: an opening sign and a quoted text that closes -/
def qFind (text : Array Nat) (lim pos : Nat) : Option Nat :=
  if pos < lim && text.getD pos 0 == 34 then qScan text lim (lim + 1) (pos + 1) else none
theorem qs_match {text : Array Nat} {pos lim : Nat} (hp : pos ≤ lim) (hlim : lim ≤ 10000) :
    match qFind text lim pos with
    | some e => Match 300000 (forMatch qsCode text 0 pos lim false false) pos e #[] (-1) (-1)
    | none => NoMatch 300000 (forMatch qsCode text 0 pos lim false false) := by
  by_cases h2 : lim - pos < 2
  · have e : (((2 : Nat) != 0) && decide (pos ≤ lim) && decide (lim - pos < 2)) = true := by simp; omega
    have hm : forMatch qsCode text 0 pos lim false false = (mStart qsCode text pos lim false 0).say false := by
      rw [forMatch_eq]; exact if_pos e
    have hn : qFind text lim pos = none := by
      unfold qFind
      split
      · unfold qScan
        rw [if_neg (by omega)]
      · rfl
    rw [hn, hm]
    exact (NoMatch.say rfl rfl).le (by omega)
  · have e : ¬ ((((2 : Nat) != 0) && decide (pos ≤ lim) && decide (lim - pos < 2)) = true) := by simp; omega
    have hm : forMatch qsCode text 0 pos lim false false = mStart qsCode text pos lim false 0 := by
      rw [forMatch_eq]; exact if_neg e
    rw [hm]
    have g := go_lit (m := mStart qsCode text pos lim false 0) (a := 34) rfl rfl (by show 9 < 53; decide) rfl rfl
    rw [if_neg (by show ¬ (pos ≥ lim); omega)] at g
    cases h3 : text.getD pos 0 == 34 with
    | false =>
      rw [if_neg (by show ¬ ((text.getD pos 0 == 34) = true); rw [h3]; exact Bool.false_ne_true)] at g
      have hn : qFind text lim pos = none := by
        unfold qFind
        rw [h3]; simp
      rw [hn]
      exact (NoMatch.after g (NoMatch.say rfl rfl)).le (by omega)
    | true =>
      rw [if_pos (by exact h3)] at g
      have hn : qFind text lim pos = qScan text lim (lim + 1) (pos + 1) := by
        unfold qFind
        rw [h3, if_pos (by simp; omega)]
      rw [hn]
      have g1 := go_repeat (m := { mStart qsCode text pos lim false 0 with pc := 11, pos := pos + 1 }) rfl rfl (by show 11 < 53; decide) rfl (by show 0 + 1 ≤ 16777216; decide)
      have ih := q_loop (text := text) (pos := pos) (p0 := pos + 1) (lim := lim) (lim + 1) (its := []) (p := pos + 1) (h := pos + 1) (by omega) (by show 0 + (lim + 1) ≤ 100000; omega) trivial (fun b e => by cases e)
      split at ih
      · exact (Match.after g (Match.after g1 ih)).le (by simp only [List.length_nil]; omega)
      · exact (NoMatch.after g (NoMatch.after g1 ih)).le (by simp only [List.length_nil]; omega)
end
end
section
open PySem hiding Frame Kept Outcome run
open PySem.Sre
def uqCode : Array Nat := #[14, 8, 1, 2, 2, 1, 1, 92, 0, 16, 92, 17, 0, 13, 11, 9, 512, 4294967295, 4294967295, 2147483647, 4294967295, 4294967295, 4294967295, 4294967295, 0, 17, 1, 1]
def qtCode : Array Nat := #[14, 9, 4, 1, 1, 16, 34, 16, 92, 0, 17, 0, 13, 6, 16, 34, 16, 92, 0, 17, 1, 1]
theorem uq_accepts (c : Nat) (s : Seen) : ∃ s', accepts uqCode 13 c s = .ok (isQp c, s') :=
  accepts_set rfl rfl rfl (by decide) ⟨26, rfl⟩ s
def isQt (c : Nat) : Bool := c == 34 || c == 92
theorem qt_accepts (c : Nat) (s : Seen) : ∃ s', accepts qtCode 12 c s = .ok (isQt c, s') :=
  accepts_two rfl rfl rfl rfl rfl rfl ⟨19, rfl⟩ s
theorem qt_set (c : Nat) (s : Seen) : ∃ s', inSet qtCode c qtCode.size 5 true s = .ok (isQt c, s') := by
  show ∃ s', inSet qtCode c (19 + 3) 5 true s = _
  rw [inSet_lit (a := 34) rfl rfl]
  unfold isQt
  cases e : c == 34 with
  | true => exact ⟨_, rfl⟩
  | false =>
    rw [if_neg Bool.false_ne_true, inSet_lit (a := 92) rfl rfl]
    cases e2 : c == 92 with
    | true => exact ⟨_, rfl⟩
    | false => rw [if_neg Bool.false_ne_true, inSet_fail rfl]; exact ⟨_, rfl⟩

/-- the first place from s on where a sign of the text answers the test -/
def uFind (text : Array Nat) (lim : Nat) : Nat → Nat → Option Nat
  | 0, _ => none
  | f + 1, s => if s < lim then (if text.getD s 0 == 92 && decide (s + 1 < lim) && isQp (text.getD (s + 1) 0) then some s else uFind text lim f (s + 1)) else none
def sFind (text : Array Nat) (lim : Nat) : Nat → Nat → Option Nat
  | 0, _ => none
  | f + 1, s => if s < lim then (if isQt (text.getD s 0) then some s else sFind text lim f (s + 1)) else none

section
variable {text : Array Nat} {lim : Nat}
abbrev uA (text : Array Nat) (lim s : Nat) (o : Bool) (mk : Array (Option Nat)) : M :=
  { code := uqCode, text, lim, start := s, lastStart := lim, pc := 9, pos := s, handed := s, outermost := o, marks := mk, frames := [{ wait := .nextStart, pc := 9, pos := s, outermost := o }], weight := 1 }
theorem two_marks (mk : Array (Option Nat)) (h : mk.size = 2) (a b : Option Nat) : (mk.setIfInBounds 0 a).setIfInBounds 1 b = #[a, b] := by
  obtain ⟨l⟩ := mk
  match l, h with
  | [x, y], _ => rfl
theorem mark_one (m : M) (h : m.lastmark = 0) : m.mark 1 = { m with marks := m.marks.setIfInBounds 1 (some m.pos), lastmark := 1, lastindex := 1, pc := m.pc + 2 } := by
  unfold M.mark
  rw [h]
  rfl
theorem u_loop : ∀ (f : Nat) {s : Nat} {o : Bool} {mk : Array (Option Nat)}, lim - s < f → mk.size = 2 →
    match uFind text lim f s with
    | some e => Match (5 * f + 10) (uA text lim s o mk) e (e + 2) #[some (e + 1), some (e + 2)] 1 1
    | none => NoMatch (5 * f + 10) (uA text lim s o mk)
  | 0, _, _, _, h, _ => absurd h (Nat.not_lt_zero _)
  | f + 1, s, o, mk, hf, hk => by
    have g := go_lit (m := uA text lim s o mk) (a := 92) rfl rfl (by show 9 < 28; decide) rfl rfl
    unfold uFind
    by_cases hl : s < lim
    · rw [if_neg (by show ¬ (s ≥ lim); omega)] at g
      rw [if_pos hl]
      have next : ∀ (mk' : Array (Option Nat)) (pc p : Nat) (lm : Int), mk'.size = 2 → Go 1 (({ code := uqCode, text, lim, start := s, lastStart := lim, pc := pc, pos := p, handed := s, outermost := o, marks := mk', lastmark := lm, frames := [{ wait := .nextStart, pc := 9, pos := s, outermost := o }], weight := 1 } : M).say false) (uA text lim (s + 1) false mk') :=
        fun mk' pc p lm hk' => go_resume rfl rfl rfl fun q => ⟨q, by
          show (if s < lim then _ else _) = _
          rw [if_pos hl]
          unfold M.attemptFrom
          rw [if_pos (by rfl)]
          unfold M.attemptAt
          rw [attempt_ok (by show 1 - (1 + 0) + 1 + 0 ≤ 16777216; decide)]
          rfl⟩
      cases h1 : text.getD s 0 == 92 with
      | false =>
        rw [if_neg (by show ¬ ((text.getD s 0 == 92) = true); rw [h1]; exact Bool.false_ne_true)] at g
        simp only [Bool.false_and, Bool.false_eq_true, if_false]
        have ih := u_loop f (s := s + 1) (o := false) (mk := mk) (by omega) hk
        split at ih
        · exact (Match.after g (Match.after (next mk 9 s (-1) hk) ih)).le (by omega)
        · exact (NoMatch.after g (NoMatch.after (next mk 9 s (-1) hk) ih)).le (by omega)
      | true =>
        rw [if_pos (by exact h1)] at g
        have g1 := go_mark (m := { uA text lim s o mk with pc := 11, pos := s + 1 }) rfl rfl (by show 11 < 28; decide) rfl
        have g1' : Go 1 ({ uA text lim s o mk with pc := 11, pos := s + 1 } : M) { uA text lim s o mk with pc := 13, pos := s + 1, marks := mk.setIfInBounds 0 (some (s + 1)), lastmark := 0 } := g1
        have g2 := go_in (m := { uA text lim s o mk with pc := 13, pos := s + 1, marks := mk.setIfInBounds 0 (some (s + 1)), lastmark := 0 }) (q := isQp) rfl rfl (by show 13 < 28; decide) rfl uq_accepts
        have hk' : (mk.setIfInBounds 0 (some (s + 1))).size = 2 := by simpa using hk
        by_cases h2 : (decide (s + 1 < lim) && isQp (text.getD (s + 1) 0)) = true
        · have h3 := h2
          simp only [Bool.and_eq_true, decide_eq_true_eq] at h3
          rw [if_neg (by show ¬ (s + 1 ≥ lim); omega), if_pos (by exact h3.2)] at g2
          rw [if_pos (by simpa using h3)]
          have g3 := go_mark (m := { uA text lim s o mk with pc := 25, pos := s + 2, marks := mk.setIfInBounds 0 (some (s + 1)), lastmark := 0 }) rfl rfl (by show 25 < 28; decide) rfl
          have g3' : Go 1 ({ uA text lim s o mk with pc := 25, pos := s + 2, marks := mk.setIfInBounds 0 (some (s + 1)), lastmark := 0 } : M)
            { uA text lim s o mk with pc := 27, pos := s + 2, marks := (mk.setIfInBounds 0 (some (s + 1))).setIfInBounds 1 (some (s + 2)), lastmark := 1, lastindex := 1 } := by
            have e := mark_one ({ uA text lim s o mk with pc := 25, pos := s + 2, marks := mk.setIfInBounds 0 (some (s + 1)), lastmark := 0 } : M) rfl
            exact e ▸ g3
          have g4 := go_success (m := { uA text lim s o mk with pc := 27, pos := s + 2, marks := (mk.setIfInBounds 0 (some (s + 1))).setIfInBounds 1 (some (s + 2)), lastmark := 1, lastindex := 1 }) rfl rfl (by show 27 < 28; decide) rfl
          rw [if_neg (by show ¬ ((o && ((false && _) || (false && _))) = true); simp)] at g4
          have g5 : Match 2 (({ uA text lim s o mk with pc := 27, pos := s + 2, handed := s + 2, marks := (mk.setIfInBounds 0 (some (s + 1))).setIfInBounds 1 (some (s + 2)), lastmark := 1, lastindex := 1 } : M).say true) s (s + 2) #[some (s + 1), some (s + 2)] 1 1 :=
            Match.after (a := 1) (b := 1) (go_yes rfl rfl rfl (.inr (.inl rfl))) ⟨_, go_end (yes := true) rfl rfl rfl, rfl, rfl, rfl, two_marks mk hk _ _, rfl, rfl⟩
          exact Match.le (a := 1 + (1 + (1 + (1 + (1 + 2))))) (Match.after g (Match.after g1' (Match.after g2 (Match.after g3' (Match.after g4 g5))))) (by omega)
        · have g2' : Go 1 ({ uA text lim s o mk with pc := 13, pos := s + 1, marks := mk.setIfInBounds 0 (some (s + 1)), lastmark := 0 } : M) (({ uA text lim s o mk with pc := 13, pos := s + 1, marks := mk.setIfInBounds 0 (some (s + 1)), lastmark := 0 } : M).say false) := by
            by_cases h3 : s + 1 ≥ lim
            · rw [if_pos (by exact h3)] at g2; exact g2
            · rw [if_neg (by exact h3)] at g2
              rw [if_neg (fun q => h2 (by
                have q' : isQp (text.getD (s + 1) 0) = true := q
                rw [q', Bool.and_true]; exact decide_eq_true (by omega)))] at g2
              exact g2
          rw [if_neg (by simpa using h2)]
          have ih := u_loop f (s := s + 1) (o := false) (mk := mk.setIfInBounds 0 (some (s + 1))) (by omega) hk'
          split at ih
          · exact Match.le (a := 1 + (1 + (1 + (1 + (5 * f + 10))))) (Match.after g (Match.after g1' (Match.after g2' (Match.after (next _ 13 (s + 1) 0 hk') ih)))) (by omega)
          · exact NoMatch.le (a := 1 + (1 + (1 + (1 + (5 * f + 10))))) (NoMatch.after g (NoMatch.after g1' (NoMatch.after g2' (NoMatch.after (next _ 13 (s + 1) 0 hk') ih)))) (by omega)
    · rw [if_pos (by show s ≥ lim; omega)] at g
      rw [if_neg hl]
      have g1 : Go 1 ((uA text lim s o mk).say false) (({ code := uqCode, text, lim, start := s, lastStart := lim, pc := 9, pos := s, handed := s, outermost := o, marks := mk, frames := [], weight := 0 } : M).say false) :=
        go_resume rfl rfl rfl fun q => ⟨q, by
          show (if s < lim then _ else _) = _
          rw [if_neg hl]
          rfl⟩
      exact (NoMatch.after g (NoMatch.after g1 (NoMatch.say rfl rfl))).le (by omega)
/-- the start of a search for what is to be unquoted -/
theorem uq_search {pos : Nat} (hp : pos ≤ lim) :
    match uFind text lim (lim + 1) pos with
    | some e => Match (5 * lim + 30) (forSearch uqCode text 1 pos lim false) e (e + 2) #[some (e + 1), some (e + 2)] 1 1
    | none => NoMatch (5 * lim + 30) (forSearch uqCode text 1 pos lim false) := by
  have ih := u_loop (text := text) (lim := lim) (lim + 1) (s := pos) (o := true) (mk := Array.replicate (2 * 1) none) (by omega) rfl
  by_cases h2 : lim - pos < 2
  · have e : (decide (pos > lim) || decide (lim - pos < 2)) = true := by simp; omega
    have hm : forSearch uqCode text 1 pos lim false = (mStart uqCode text pos lim false 1).say false := if_pos e
    have hn : uFind text lim (lim + 1) pos = none := by
      unfold uFind
      split
      · rw [if_neg (by simp; omega)]
        cases lim with
        | zero => omega
        | succ l => unfold uFind; rw [if_neg (by omega)]
      · rfl
    rw [hn, hm]
    exact (NoMatch.say rfl rfl).le (by omega)
  · have e : ¬ ((decide (pos > lim) || decide (lim - pos < 2)) = true) := by simp; omega
    have hm : forSearch uqCode text 1 pos lim false = { uA text lim pos true (Array.replicate (2 * 1) none) with seen := ({} : Seen).add 14 } := by
      refine (if_neg e).trans ?_
      unfold M.attemptFrom
      rw [if_pos (by rfl)]
      unfold M.attemptAt
      rw [attempt_ok (by show 0 + 1 + 0 ≤ 16777216; decide)]
      rfl
    rw [hm]
    split at ih
    · obtain ⟨m', g, r⟩ := ih
      exact Match.le (a := 5 * (lim + 1) + 10) ⟨m', fun s => g s, r⟩ (by omega)
    · obtain ⟨m', g, r⟩ := ih
      exact NoMatch.le (a := 5 * (lim + 1) + 10) ⟨m', fun s => g s, r⟩ (by omega)

theorem qt_admitted (m : M) (hc : m.code = qtCode) (ht : m.text = text) (hl : m.lim = lim) : ∀ (f s : Nat) (sn : Seen), ∃ sn', M.admitted m f s sn = .ok (sFind text lim f s, sn')
  | 0, s, sn => ⟨sn, rfl⟩
  | f + 1, s, sn => by
    unfold M.admitted sFind
    rw [hc, ht, hl]
    by_cases h : s < lim
    · rw [if_neg (by omega), if_pos h]
      obtain ⟨s₁, e⟩ := qt_set (text.getD s 0) sn
      rw [e]
      cases isQt (text.getD s 0) with
      | true => exact ⟨s₁, rfl⟩
      | false => exact qt_admitted m hc ht hl f (s + 1) s₁
    · rw [if_pos (by omega), if_neg h]
      exact ⟨sn, rfl⟩
theorem sFind_lt : ∀ (f s : Nat) {e : Nat}, sFind text lim f s = some e → s ≤ e ∧ e < lim ∧ isQt (text.getD e 0) = true
  | 0, _, _, h => by cases h
  | f + 1, s, e, h => by
    unfold sFind at h
    split at h
    · split at h
      · cases h; exact ⟨Nat.le_refl _, by assumption, by assumption⟩
      · obtain ⟨a, b⟩ := sFind_lt f (s + 1) h; exact ⟨by omega, b⟩
    · cases h
abbrev qA (text : Array Nat) (lim s : Nat) : M :=
  { code := qtCode, text, lim, start := s, lastStart := lim, pc := 10, pos := s, handed := s, outermost := true, marks := #[none, none], frames := [{ wait := .nextStart, pc := 10, pos := s, outermost := true }], weight := 1 }
theorem qt_found {s : Nat} (hl : s < lim) (hq : isQt (text.getD s 0) = true) : Match 6 (qA text lim s) s (s + 1) #[some s, some (s + 1)] 1 1 := by
  have g := go_mark (m := qA text lim s) rfl rfl (by show 10 < 22; decide) rfl
  have g' : Go 1 (qA text lim s) { qA text lim s with pc := 12, marks := #[some s, none], lastmark := 0 } := g
  have g1 := go_in (m := { qA text lim s with pc := 12, marks := #[some s, none], lastmark := 0 }) (q := isQt) rfl rfl (by show 12 < 22; decide) rfl qt_accepts
  rw [if_neg (by show ¬ (s ≥ lim); omega), if_pos (by exact hq)] at g1
  have g2 := go_mark (m := { qA text lim s with pc := 19, pos := s + 1, marks := #[some s, none], lastmark := 0 }) rfl rfl (by show 19 < 22; decide) rfl
  have g2' : Go 1 ({ qA text lim s with pc := 19, pos := s + 1, marks := #[some s, none], lastmark := 0 } : M) { qA text lim s with pc := 21, pos := s + 1, marks := #[some s, some (s + 1)], lastmark := 1, lastindex := 1 } := by
    have e := mark_one ({ qA text lim s with pc := 19, pos := s + 1, marks := #[some s, none], lastmark := 0 } : M) rfl
    exact e ▸ g2
  have g3 := go_success (m := { qA text lim s with pc := 21, pos := s + 1, marks := #[some s, some (s + 1)], lastmark := 1, lastindex := 1 }) rfl rfl (by show 21 < 22; decide) rfl
  rw [if_neg (by show ¬ ((true && ((false && _) || (false && _))) = true); simp)] at g3
  have g4 : Match 2 (({ qA text lim s with pc := 21, pos := s + 1, handed := s + 1, marks := #[some s, some (s + 1)], lastmark := 1, lastindex := 1 } : M).say true) s (s + 1) #[some s, some (s + 1)] 1 1 :=
    Match.after (a := 1) (b := 1) (go_yes rfl rfl rfl (.inr (.inl rfl))) ⟨_, go_end (yes := true) rfl rfl rfl, rfl, rfl, rfl, rfl, rfl, rfl⟩
  exact Match.after (a := 1) (b := 5) g' (Match.after (a := 1) (b := 4) g1 (Match.after (a := 1) (b := 3) g2' (Match.after (a := 1) (b := 2) g3 g4)))
theorem attemptFrom_some {m : M} {s x : Nat} {first : Bool} {sn : Seen} (h : m.hasFirstSet = true) (e : M.admitted m (m.lim + 1 - s) s m.seen = .ok (some x, sn)) :
    m.attemptFrom s first = ({ m with mustAdvance := false, seen := sn } : M).attemptAt x first := by
  unfold M.attemptFrom
  rw [if_neg (by rw [h]; decide), e]
theorem attemptFrom_none {m : M} {s : Nat} {first : Bool} {sn : Seen} (h : m.hasFirstSet = true) (e : M.admitted m (m.lim + 1 - s) s m.seen = .ok (none, sn)) :
    m.attemptFrom s first = ({ m with seen := sn } : M).say false := by
  unfold M.attemptFrom
  rw [if_neg (by rw [h]; decide), e]
theorem qt_search {pos : Nat} (hp : pos ≤ lim) :
    match sFind text lim (lim + 1 - pos) pos with
    | some e => Match 10 (forSearch qtCode text 1 pos lim false) e (e + 1) #[some e, some (e + 1)] 1 1
    | none => NoMatch 10 (forSearch qtCode text 1 pos lim false) := by
  by_cases h2 : lim - pos < 1
  · have e : (decide (pos > lim) || decide (lim - pos < 1)) = true := by simp; omega
    have hm : forSearch qtCode text 1 pos lim false = (mStart qtCode text pos lim false 1).say false := if_pos e
    have hn : sFind text lim (lim + 1 - pos) pos = none := by
      cases q : sFind text lim (lim + 1 - pos) pos with
      | none => rfl
      | some x => have := sFind_lt _ _ q; omega
    rw [hn, hm]
    exact (NoMatch.say rfl rfl).le (by omega)
  · have e : ¬ ((decide (pos > lim) || decide (lim - pos < 1)) = true) := by simp; omega
    have hm : forSearch qtCode text 1 pos lim false = M.attemptFrom { mStart qtCode text pos lim false 1 with lastStart := lim } pos true := if_neg e
    obtain ⟨s₁, ea⟩ := qt_admitted (text := text) (lim := lim) { mStart qtCode text pos lim false 1 with lastStart := lim } rfl rfl rfl (lim + 1 - pos) pos (({} : Seen).add 14)
    rw [hm]
    cases q : sFind text lim (lim + 1 - pos) pos with
    | none =>
      rw [q] at ea
      rw [attemptFrom_none (m := { mStart qtCode text pos lim false 1 with lastStart := lim }) rfl ea]
      exact (NoMatch.say rfl rfl).le (by omega)
    | some x =>
      rw [q] at ea
      have hx := sFind_lt _ _ q
      rw [attemptFrom_some (m := { mStart qtCode text pos lim false 1 with lastStart := lim }) rfl ea]
      unfold M.attemptAt
      rw [attempt_ok (by show 0 + 1 + 0 ≤ 16777216; decide)]
      obtain ⟨m', g, r⟩ := qt_found hx.2.1 hx.2.2
      exact Match.le (a := 6) ⟨m', fun s => g s, r⟩ (by omega)
end
end
section
open PySem PySem.W PySem.Spec PySem.Calls PyProof.Rows
open PySem.Builtin.Re

section
variable {Md : Model} {A : Around} {E : Value → Shared → Prop} {s : Shared}
theorem wp_drive {m' : Sre.M} {Q : Sre.M → Shared → Prop} (ho : m'.outcome.isSome = true) (hQ : ∀ s', Q { m' with seen := s' } s) :
    ∀ (turns k : Nat) (m : Sre.M), (∃ s', Sre.M.runFor k m = { m' with seen := s' }) → k ≤ 4 * turns → 0 < turns → wpAny Md A (reDrive turns m) Q E s
  | 0, _, _, _, _, h => absurd h (Nat.not_lt_zero _)
  | t + 1, k, m, ⟨s', e⟩, hk, _ => by
    unfold reDrive
    show wpAny Md A (if (Sre.M.runFor 4 m).outcome.isSome = true then pure (Sre.M.runFor 4 m) else do rule "sre.turn"; reDrive t (Sre.M.runFor 4 m)) Q E s
    have done : ∀ (j : Nat) (x : Sre.M), x.outcome.isSome = true → Sre.M.runFor j x = x := fun j x h => by
      cases j with
      | zero => rfl
      | succ j => exact if_pos h
    by_cases h4 : k ≤ 4
    · obtain ⟨j, hj⟩ := Nat.le.dest h4
      have e4 : Sre.M.runFor 4 m = { m' with seen := s' } := by
        rw [← hj, runFor_add, e]
        exact done j _ ho
      rw [e4]
      rw [if_pos (by exact ho)]
      exact wpAny_pure (hQ s')
    · obtain ⟨j, hj⟩ := Nat.le.dest (Nat.le_of_lt (Nat.lt_of_not_le h4))
      have ej : Sre.M.runFor j (Sre.M.runFor 4 m) = { m' with seen := s' } := by rw [← runFor_add, hj, e]
      by_cases h1 : (Sre.M.runFor 4 m).outcome.isSome = true
      · have e4 : Sre.M.runFor 4 m = { m' with seen := s' } := (done j _ h1).symm.trans ej
        rw [if_pos h1, e4]
        exact wpAny_pure (hQ s')
      · rw [if_neg h1]
        exact wpAny_bind (wpAny_rule (wp_drive ho hQ t j _ ⟨s', ej⟩ (by omega) (by omega)))

theorem wp_rules (c : Nat → Bool) (tg : Nat → String) {Q : PUnit → Shared → Prop} (h : Q ⟨⟩ s) : ∀ l : List Nat,
    wpAny Md A (forIn l PUnit.unit fun i _ => do (if c i = true then do rule (tg i); pure (.yield PUnit.unit) else pure (.yield PUnit.unit)) : Sem PUnit) Q E s
  | [] => wpAny_pure h
  | i :: l => by
    rw [List.forIn_cons]
    refine wpAny_bind ?_
    split
    · exact wpAny_bind (wpAny_rule (wpAny_pure (wp_rules c tg h l)))
    · exact wpAny_pure (wp_rules c tg h l)
theorem wp_toEnd_match {k st hd : Nat} {mk : Array (Option Nat)} {lm li : Int} {m : Sre.M} {Q : Option Sre.M → Shared → Prop} (h : Match k m st hd mk lm li) (hk : k ≤ 1000000)
    (hQ : ∀ m' : Sre.M, m'.start = st → m'.handed = hd → m'.marks = mk → m'.lastmark = lm → m'.lastindex = li → Q (some m') s) : wpAny Md A (reRunToEnd m) Q E s := by
  obtain ⟨m', g, ho, e1, e2, e3, e4, e5⟩ := h
  unfold reRunToEnd
  obtain ⟨s', e⟩ := g m.seen
  refine wpAny_bind (wp_drive (m' := m') (by rw [ho]; rfl) (fun s' => ?_) (2 ^ 64) k m ⟨s', e⟩ (by omega) (by decide))
  refine wpAny_bind (wp_rules _ _ ?_ _)
  show wpAny Md A (match m'.outcome with | _ => _) Q E s
  rw [ho]
  exact wpAny_pure (hQ _ e1 e2 e3 e4 e5)
theorem wp_toEnd_none {k : Nat} {m : Sre.M} {Q : Option Sre.M → Shared → Prop} (h : NoMatch k m) (hk : k ≤ 1000000) (hQ : Q none s) : wpAny Md A (reRunToEnd m) Q E s := by
  obtain ⟨m', g, ho⟩ := h
  unfold reRunToEnd
  obtain ⟨s', e⟩ := g m.seen
  refine wpAny_bind (wp_drive (m' := m') (by rw [ho]; rfl) (fun s' => ?_) (2 ^ 64) k m ⟨s', e⟩ (by omega) (by decide))
  refine wpAny_bind (wp_rules _ _ ?_ _)
  show wpAny Md A (match m'.outcome with | _ => _) Q E s
  rw [ho]
  exact wpAny_pure hQ
end
end
section
open PySem PySem.W PySem.Spec PySem.Calls PyProof.Rows
open PySem.Builtin.Re
theorem owner_Pattern : Manifest.owners.lookup (String.ofList ['n', 'r', 'e', 't', 't', 'a', 'P', '.', 'e', 'r'].reverse) = some Manifest.sig_re_Pattern := by kernel_rfl
theorem owner_Match : Manifest.owners.lookup (String.ofList ['h', 'c', 't', 'a', 'M', '.', 'e', 'r'].reverse) = some Manifest.sig_re_Match := by kernel_rfl
theorem slot_match : Slot "re.Pattern" "match" "re.Pattern.match" :=
  .of (owner := "re.Pattern") (n := "match") (by rw [typeLookup_type, builtinLookup_eq_fast]; kernel_rfl) (by decide +kernel) (by decide +kernel) (by decide +kernel)
    (by first | exact .inl (by decide +kernel) | exact .inr (by decide +kernel)) (by rw [isSubtype_type]; kernel_rfl)
theorem type_match : typeOf (.builtin "re.Pattern.match") = pure (.type "method_descriptor") := by show builtinType _ = _; rw [builtinType_eq_fast]; kernel_rfl
theorem entry_match : entryFor table "re.Pattern.match" = some Builtin.«re.Pattern.match» := entryFor_of_tree (by kernel_rfl)
theorem args_match (a b c : Value) : argsOk "re.Pattern.match" ⟨[a, b, c], []⟩ := by unfold argsOk; rw [signature?_of (id := "re.Pattern.match") (n := ['h', 'c', 't', 'a', 'm']) (o := ['n', 'r', 'e', 't', 't', 'a', 'P', '.', 'e', 'r']) (by kernel_rfl) owner_Pattern]; kernel_rfl
theorem slot_fullmatch : Slot "re.Pattern" "fullmatch" "re.Pattern.fullmatch" :=
  .of (owner := "re.Pattern") (n := "fullmatch") (by rw [typeLookup_type, builtinLookup_eq_fast]; kernel_rfl) (by decide +kernel) (by decide +kernel) (by decide +kernel)
    (by first | exact .inl (by decide +kernel) | exact .inr (by decide +kernel)) (by rw [isSubtype_type]; kernel_rfl)
theorem type_fullmatch : typeOf (.builtin "re.Pattern.fullmatch") = pure (.type "method_descriptor") := by show builtinType _ = _; rw [builtinType_eq_fast]; kernel_rfl
theorem entry_fullmatch : entryFor table "re.Pattern.fullmatch" = some Builtin.«re.Pattern.fullmatch» := entryFor_of_tree (by kernel_rfl)
theorem args_fullmatch (a b : Value) : argsOk "re.Pattern.fullmatch" ⟨[a, b], []⟩ := by unfold argsOk; rw [signature?_of (id := "re.Pattern.fullmatch") (n := ['h', 'c', 't', 'a', 'm', 'l', 'l', 'u', 'f']) (o := ['n', 'r', 'e', 't', 't', 'a', 'P', '.', 'e', 'r']) (by kernel_rfl) owner_Pattern]; kernel_rfl
theorem slot_sub : Slot "re.Pattern" "sub" "re.Pattern.sub" :=
  .of (owner := "re.Pattern") (n := "sub") (by rw [typeLookup_type, builtinLookup_eq_fast]; kernel_rfl) (by decide +kernel) (by decide +kernel) (by decide +kernel)
    (by first | exact .inl (by decide +kernel) | exact .inr (by decide +kernel)) (by rw [isSubtype_type]; kernel_rfl)
theorem type_sub : typeOf (.builtin "re.Pattern.sub") = pure (.type "method_descriptor") := by show builtinType _ = _; rw [builtinType_eq_fast]; kernel_rfl
theorem entry_sub : entryFor table "re.Pattern.sub" = some Builtin.«re.Pattern.sub» := entryFor_of_tree (by kernel_rfl)
theorem entry_subLoop : entryFor table "re.Pattern.sub.loop" = some Builtin.«re.Pattern.sub.loop» := entryFor_of_tree (by kernel_rfl)
theorem args_sub (a b c : Value) : argsOk "re.Pattern.sub" ⟨[a, b, c], []⟩ := by unfold argsOk; rw [signature?_of (id := "re.Pattern.sub") (n := ['b', 'u', 's']) (o := ['n', 'r', 'e', 't', 't', 'a', 'P', '.', 'e', 'r']) (by kernel_rfl) owner_Pattern]; kernel_rfl
theorem plainAttrs_Pattern : PlainAttrs "re.Pattern" :=
  ⟨⟨"object.__getattribute__", by rw [typeLookup_type, builtinLookup_eq_fast]; kernel_rfl, by decide +kernel⟩, by rw [typeLookup_type, builtinLookup_eq_fast]; kernel_rfl⟩
theorem slot_end : Slot "re.Match" "end" "re.Match.end" :=
  .of (owner := "re.Match") (n := "end") (by rw [typeLookup_type, builtinLookup_eq_fast]; kernel_rfl) (by decide +kernel) (by decide +kernel) (by decide +kernel)
    (by first | exact .inl (by decide +kernel) | exact .inr (by decide +kernel)) (by rw [isSubtype_type]; kernel_rfl)
theorem type_end : typeOf (.builtin "re.Match.end") = pure (.type "method_descriptor") := by show builtinType _ = _; rw [builtinType_eq_fast]; kernel_rfl
theorem entry_end : entryFor table "re.Match.end" = some Builtin.«re.Match.end» := entryFor_of_tree (by kernel_rfl)
theorem args_end (a : Value) : argsOk "re.Match.end" ⟨[a], []⟩ := by unfold argsOk; rw [signature?_of (id := "re.Match.end") (n := ['d', 'n', 'e']) (o := ['h', 'c', 't', 'a', 'M', '.', 'e', 'r']) (by kernel_rfl) owner_Match]; kernel_rfl
theorem slot_group : Slot "re.Match" "group" "re.Match.group" :=
  .of (owner := "re.Match") (n := "group") (by rw [typeLookup_type, builtinLookup_eq_fast]; kernel_rfl) (by decide +kernel) (by decide +kernel) (by decide +kernel)
    (by first | exact .inl (by decide +kernel) | exact .inr (by decide +kernel)) (by rw [isSubtype_type]; kernel_rfl)
theorem type_group : typeOf (.builtin "re.Match.group") = pure (.type "method_descriptor") := by show builtinType _ = _; rw [builtinType_eq_fast]; kernel_rfl
theorem entry_group : entryFor table "re.Match.group" = some Builtin.«re.Match.group» := entryFor_of_tree (by kernel_rfl)
theorem args_group1 (a : Value) : argsOk "re.Match.group" ⟨[a], []⟩ := by unfold argsOk; rw [signature?_of (id := "re.Match.group") (n := ['p', 'u', 'o', 'r', 'g']) (o := ['h', 'c', 't', 'a', 'M', '.', 'e', 'r']) (by kernel_rfl) owner_Match]; kernel_rfl
theorem args_group2 (a b : Value) : argsOk "re.Match.group" ⟨[a, b], []⟩ := by unfold argsOk; rw [signature?_of (id := "re.Match.group") (n := ['p', 'u', 'o', 'r', 'g']) (o := ['h', 'c', 't', 'a', 'M', '.', 'e', 'r']) (by kernel_rfl) owner_Match]; kernel_rfl
theorem plainAttrs_Match : PlainAttrs "re.Match" :=
  ⟨⟨"object.__getattribute__", by rw [typeLookup_type, builtinLookup_eq_fast]; kernel_rfl, by decide +kernel⟩, by rw [typeLookup_type, builtinLookup_eq_fast]; kernel_rfl⟩
end
section
open PySem PySem.W PySem.Spec PySem.Calls PyProof.Rows
open PySem.Builtin.Re
theorem named_match (a b : Value) : reNamed "re.Pattern.match" "match" ["string", "pos", "endpos"] 1 [a, b] [] = pure [some a, some b, none] := by rfl
theorem named_full (a : Value) : reNamed "re.Pattern.fullmatch" "fullmatch" ["string", "pos", "endpos"] 1 [a] [] = pure [some a, none, none] := by rfl
theorem named_sub (a b : Value) : reNamed "re.Pattern.sub" "sub" ["repl", "string", "count"] 2 [a, b] [] = pure [some a, some b, none] := by rfl

/-- a compiled pattern of the top -/
structure IsPat (h : Heap) (P : Addr) (code : Array Nat) (g : Nat) : Prop where
  obj : ∃ o pat fl tf ct oc items n, h.get? P = some o ∧ o.cls = .type "re.Pattern" ∧ o.dict = none ∧ o.data = .fields #[pat, .int fl tf, rawInt g, .none, .none, .ref ct, rawInt 0] ∧
    h.get? ct = some oc ∧ oc.data = .seq items n ∧ (items.map reRawOf).map (·.toNat) = code
theorem IsPat.keeps {h h' : Heap} {P : Addr} {code : Array Nat} {g : Nat} (x : IsPat h P code g) (k : ∀ b o, h.get? b = some o → h'.get? b = some o) : IsPat h' P code g :=
  let ⟨o, pat, fl, tf, ct, oc, items, n, a, b, c, d, e, r⟩ := x.obj
  ⟨o, pat, fl, tf, ct, oc, items, n, k _ _ a, b, c, d, k _ _ e, r⟩
theorem IsPat.of_K {K : Frag} {h : Heap} (X : K.In h) {P ct : Addr} {code : Array Nat} {g : Nat} {pat : Value} {fl : Int} {tf : Tok} {sl sl' : Array (Option Value)} {cl : Value} {dd : Option Addr} {items : Array Value} {n : Nat}
    (e : K.lookup P = some ⟨.type "re.Pattern", none, .fields #[pat, .int fl tf, rawInt g, .none, .none, .ref ct, rawInt 0], sl⟩) (e2 : K.lookup ct = some ⟨cl, dd, .seq items n, sl'⟩) (ec : (items.map reRawOf).map (·.toNat) = code) : IsPat h P code g :=
  ⟨⟨_, _, _, _, _, _, _, _, X _ _ e, rfl, rfl, rfl, X _ _ e2, rfl, ec⟩⟩

abbrev matchObj (x : Str) (t : Tok) (P : Addr) (i len : Nat) (li : Int) (T : Addr) : Obj :=
  { cls := .type "re.Match", data := .fields #[.str x t, .ref P, rawInt i, rawInt len, rawInt li, .ref T] }
abbrev tupObj (vs : List Value) : Obj := { cls := .type "tuple", data := .seq vs.toArray }

section
variable {prog : Program} {w : World} {A : Around} {E : Value → Shared → Prop} {s : Shared} {h₀ : Heap} {L : Addr} {m : Str → Option Value} {news : List (Addr × Obj)}

theorem wp_ssize {i : Nat} {u : Tok} {Q : Int → Shared → Prop} (hi : i ≤ 1000000) (h : Q i s) : wpAny (model prog w) A (reSsize (.int i u)) Q E s := by
  unfold reSsize
  refine wpAny_bind ?_
  show wpAny _ _ (pure (i : Int)) _ _ _
  refine wpAny_pure ?_
  have e : (decide ((i : Int) < -(2 ^ 63)) || decide ((i : Int) ≥ 2 ^ 63)) = false := by simp; omega
  rw [e]
  exact wpAny_bind (wpAny_pure (wpAny_pure h))
theorem wp_fields {a : Addr} {o : Obj} {vs : Array Value} {Q : Array Value → Shared → Prop} (ho : s.heap.get? a = some o) (hd : o.data = .fields vs) (h : Q vs s) : wpAny (model prog w) A (fieldsOf (.ref a)) Q E s := by
  unfold fieldsOf
  refine wpAny_bind (wpAny_load ho ?_)
  rw [hd]
  exact wpAny_pure h
theorem wp_rawItems {a : Addr} {o : Obj} {vs : Array Value} {n : Nat} {Q : Array Int → Shared → Prop} (ho : s.heap.get? a = some o) (hd : o.data = .seq vs n) (h : Q (vs.map reRawOf) s) : wpAny (model prog w) A (reRawItems (.ref a)) Q E s := by
  unfold reRawItems
  refine wpAny_bind ?_
  unfold seqItems?
  refine wpAny_bind (wpAny_load ho ?_)
  rw [hd]
  exact wpAny_pure (wpAny_pure h)
theorem wp_target {P : Addr} {code : Array Nat} {g i : Nat} {x : Str} {t u : Tok} {Q : ReTarget → Shared → Prop} (I : IsPat s.heap P code g) (hi : i ≤ x.length) (hx : x.length ≤ 1000000)
    (h : Q { pattern := .ref P, string := .str x t, code := code, text := x.cps, kind := 0, groups := g, pos := i, lim := x.length } s) :
    wpAny (model prog w) A (reTarget "re.Pattern.match" "match" ⟨[.ref P, .str x t, .int i u], []⟩) Q E s := by
  obtain ⟨o, pat, fl, tf, ct, oc, items, n, ho, hc, hdd, hd, hct, hoc, hcode⟩ := I.obj
  unfold reTarget
  refine wpAny_bind ?_
  rw [named_match]
  refine wpAny_pure (wpAny_bind (wp_ssize (by omega) (wpAny_bind (wpAny_pure ?_))))
  refine wpAny_bind (wp_fields ho hd (wpAny_bind ?_))
  show wpAny _ _ (pure (x.cps, 0)) _ _ _
  refine wpAny_pure ?_
  show wpAny _ _ (reNoCollectionInside _ _ >>= _) _ _ _
  refine wpAny_bind (wpAny_pure ?_)
  refine wpAny_bind (wp_rawItems hct hoc (wpAny_pure ?_))
  rw [hcode]
  have e1 : min ((i : Int)).toNat x.cps.size = i := by
    have : x.cps.size = x.length := rfl
    omega
  have e2 : min ((2 ^ 63 - 1 : Int)).toNat x.cps.size = x.length := by
    have : x.cps.size = x.length := rfl
    rw [this]
    have : ((2 ^ 63 - 1 : Int)).toNat = 9223372036854775807 := by decide
    omega
  dsimp only
  rw [e1, e2]
  exact h

theorem wp_newMatch0 {P : Addr} {x : Str} {t : Tok} {pos lim : Nat} {mm : Sre.M} {Q : Value → Shared → Prop} (F : Fr h₀ L s.heap m) (N : News h₀ L s.heap news)
    (h : ∀ h' M T, Fr h₀ L h' m → News h₀ L h' ((M, matchObj x t P pos lim mm.lastindex T) :: (T, tupObj [rawInt mm.start, rawInt mm.handed]) :: news) → (∀ p ∈ news, p.1 < T) → T < M → Q (.ref M) { s with heap := h' }) :
    wpAny (model prog w) A (reNewMatch (.ref P) (.str x t) 0 pos lim mm) Q E s := by
  unfold reNewMatch
  refine (wpAny_bind (newTuple_N F N (fun h₁ F₁ N₁ => ?_) (by simp [sizeLine])))
  refine wpAny_newObj_type ?_ (by show (6 : Nat) ≤ sizeLine + 2; decide)
  have lt : ∀ p ∈ news, p.1 < s.heap.objs.size := fun p hp => Heap.lt_size (N p hp).1
  refine h _ _ s.heap.objs.size (F₁.push _) (News.push F₁ N₁ _) lt ?_
  exact Heap.lt_size (N₁ _ (List.Mem.head _)).1

theorem call_match {P : Addr} {code : Array Nat} {i k : Nat} {x : Str} {t u : Tok} {res : Option Nat} {Q : Value → Shared → Prop} (I : IsPat h₀ P code 0) (F : Fr h₀ L s.heap m) (N : News h₀ L s.heap news) (hi : i ≤ x.length) (hx : x.length ≤ 1000000)
    (hres : match res with | some e => Match k (Sre.forMatch code x.cps 0 i x.length false false) i e #[] (-1) (-1) | none => NoMatch k (Sre.forMatch code x.cps 0 i x.length false false)) (hk : k ≤ 1000000)
    (hyes : ∀ e, res = some e → ∀ h' M T, Fr h₀ L h' m → News h₀ L h' ((M, matchObj x t P i x.length (-1) T) :: (T, tupObj [rawInt i, rawInt e]) :: news) → (∀ p ∈ news, p.1 < T) → T < M → Q (.ref M) { s with heap := h' })
    (hno : res = none → Q .none s) : wpAny (model prog w) A (call (.builtin "re.Pattern.match") [.ref P, .str x t, .int i u]) Q E s := by
  have I' := I.keeps F.keep
  obtain ⟨o, pat, fl, tf, ct, oc, items, n, ho, hc, _⟩ := id I'.obj
  refine wpAny_call_entry slot_match ⟨o, ho, hc⟩ entry_match ?_ (args_match _ _ _)
  unfold Builtin.«re.Pattern.match»
  refine wpAny_bind (wp_target I' hi hx ?_)
  dsimp only
  unfold reAnswer
  dsimp only
  cases res with
  | some e =>
    refine wpAny_bind (wp_toEnd_match hres hk fun m' e1 e2 e3 e4 e5 => ?_)
    refine wpAny_bind (wp_newMatch0 F N fun h' M T F' N' l1 l2 => ?_)
    rw [e1, e2, e5] at N'
    exact wpAny_pure ⟨_, rfl, hyes e rfl h' M T F' N' l1 l2⟩
  | none => exact wpAny_bind (wp_toEnd_none hres hk (wpAny_pure ⟨_, rfl, hno rfl⟩))

theorem getMethod_pat {P : Addr} {code : Array Nat} {g : Nat} {name : Str} {id : String} {pl : Sem Bool} {Q : Value × List Value → Shared → Prop} (I : IsPat h₀ P code g) (F : Fr h₀ L s.heap m) (slot : Slot "re.Pattern" name id)
    (hty : typeOf (.builtin id) = pure (.type "method_descriptor")) (h : Q (.builtin id, [.ref P]) s) : wpAny (model prog w) A (getMethod (.ref P) name pl) Q E s := by
  obtain ⟨o, pat, fl, tf, ct, oc, items, n, ho, hc, hdd, _⟩ := (I.keeps F.keep).obj
  exact getMethod_builtin ⟨o, ho, hc⟩ plainAttrs_Pattern slot hty (fun a e => by cases e; exact ⟨o, ho, hdd⟩) h
theorem getMethod_mt {x : Str} {t : Tok} {P M T : Addr} {i len : Nat} {li : Int} {name : Str} {id : String} {pl : Sem Bool} {Q : Value × List Value → Shared → Prop} (N : News h₀ L s.heap news) (hm : (M, matchObj x t P i len li T) ∈ news) (slot : Slot "re.Match" name id)
    (hty : typeOf (.builtin id) = pure (.type "method_descriptor")) (h : Q (.builtin id, [.ref M]) s) : wpAny (model prog w) A (getMethod (.ref M) name pl) Q E s :=
  getMethod_builtin ⟨_, N.get hm, rfl⟩ plainAttrs_Match slot hty (fun a e => by cases e; exact ⟨_, N.get hm, rfl⟩) h

theorem wp_found {x : Str} {t : Tok} {P M T : Addr} {i len : Nat} {li : Int} {vs : List Value} {Q : ReFound → Shared → Prop} (N : News h₀ L s.heap news) (hm : (M, matchObj x t P i len li T) ∈ news) (ht : (T, tupObj vs) ∈ news)
    (h : Q ⟨#[.str x t, .ref P, rawInt i, rawInt len, rawInt li, .ref T], vs.toArray.map reRawOf⟩ s) : wpAny (model prog w) A (reFound (.ref M)) Q E s := by
  unfold reFound
  refine wpAny_bind (wp_fields (N.get hm) rfl (wpAny_bind ?_))
  exact wp_rawItems (N.get ht) rfl (wpAny_pure h)
theorem call_end {x : Str} {t : Tok} {P M T : Addr} {i len : Nat} {li b e : Int} {r : List Value} {Q : Value → Shared → Prop} (N : News h₀ L s.heap news) (hm : (M, matchObj x t P i len li T) ∈ news) (ht : (T, tupObj (rawInt b :: rawInt e :: r)) ∈ news)
    (h : ∀ t, Q (.int e t) { s with toks := s.toks + 1 }) : wpAny (model prog w) A (call (.builtin "re.Match.end") [.ref M]) Q E s := by
  refine wpAny_call_entry slot_end ⟨_, N.get hm, rfl⟩ entry_end ?_ (args_end _)
  unfold Builtin.«re.Match.end» reOneGroup
  refine wpAny_bind (wpAny_bind ?_)
  rw [show selfAndSome "Match.end" "end" 0 1 ⟨[Value.ref M], []⟩ = pure (.ref M, []) from rfl]
  refine wpAny_pure ?_
  dsimp only
  refine wpAny_bind (wp_found N hm ht ?_)
  refine wpAny_bind (wpAny_pure (wpAny_pure ?_))
  refine wpAny_bind (wpAny_mkInt ?_)
  refine wpAny_pure ⟨_, rfl, ?_⟩
  have e2 : ((rawInt b :: rawInt e :: r).toArray.map reRawOf).getD (2 * 0 + 1) (-1) = e := by simp [Array.getD, reRawOf, rawInt]
  show Q (.int (((rawInt b :: rawInt e :: r).toArray.map reRawOf).getD (2 * 0 + 1) (-1)) _) _
  rw [e2]
  exact h _
theorem call_group0 {x : Str} {t : Tok} {P M T : Addr} {i len : Nat} {li : Int} {b e : Nat} {r : List Value} {Q : Value → Shared → Prop} (N : News h₀ L s.heap news) (hm : (M, matchObj x t P i len li T) ∈ news) (ht : (T, tupObj (rawInt b :: rawInt e :: r)) ∈ news)
    (hx : x.length ≤ 1000000) (h : ∀ t, Q (.str ⟨x.cps.extract b e⟩ t) { s with toks := s.toks + 1 }) : wpAny (model prog w) A (call (.builtin "re.Match.group") [.ref M]) Q E s := by
  refine wpAny_call_entry slot_group ⟨_, N.get hm, rfl⟩ entry_group ?_ (args_group1 _)
  unfold Builtin.«re.Match.group»
  refine wpAny_bind ?_
  rw [show noKeywords "Match.group" ⟨[Value.ref M], []⟩ = pure () from rfl]
  refine wpAny_pure ?_
  refine wpAny_bind (wp_found N hm ht ?_)
  dsimp only
  refine wpAny_bind ?_
  unfold reGroupText
  have e1 : ((rawInt b :: rawInt e :: r).toArray.map reRawOf).getD (2 * 0) (-1) = b := by simp [Array.getD, reRawOf, rawInt]
  have e2 : ((rawInt b :: rawInt e :: r).toArray.map reRawOf).getD (2 * 0 + 1) (-1) = e := by simp [Array.getD, reRawOf, rawInt]
  dsimp only
  rw [e1, e2]
  rw [if_neg (by show ¬ ((decide ((b : Int) < 0) || decide ((e : Int) < 0)) = true); simp)]
  refine wpAny_bind ?_
  show wpAny _ _ (pure (x.cps, 0)) _ _ _
  refine wpAny_pure ?_
  show wpAny _ _ (mkStr ⟨x.cps.extract ((b : Int)).toNat ((e : Int)).toNat⟩) _ _ _
  refine wpAny_mkStr ?_ ?_
  · exact wpAny_pure ⟨_, rfl, h _⟩
  · show (x.cps.extract _ _).size ≤ sizeLine
    rw [Array.size_extract, sizeLine_eq]
    have : x.cps.size = x.length := rfl
    omega
end
end
section
open PySem PySem.W PyProof.Rows
open_top hd for PySem.Challenge.rw_ev0029_01
end
section
open PySem PySem.W PySem.Spec PySem.Calls PyProof.Rows
/-- what every contract may use of its caller -/
abbrev Cx (prog : Program) (w : World) (p : Program) (loose : List Str) (mean : ExcName → Option Value) (mg mb : Str → Option Value)
   (k : Nat) (vs : List Value) (f : Addr) (P : (h₀ : Heap) → (L : Addr) → (m : Str → Option Value) → (news : List (Addr × Obj)) → (s : Shared) → (Q E : Value → Shared → Prop) → Prop) : Prop :=
  ∀ (dp un : Nat) (gd : Option (List Code)) (cn : Str) (cs : Scope) (a : Addr) (ccd : Value) (cl : List (Str × Addr)) (outer : List Env) (A₀ : Around) (base h₀ : Heap) (L : Addr) (m : Str → Option Value)
    (news : List (Addr × Obj)) (s : Shared) (Q E : Value → Shared → Prop),
    Below A₀ base outer h₀ → Fr h₀ L s.heap m → (hd.heap_39 w.params).In h₀ → News h₀ L s.heap news → Top p loose mean mg mb h₀ → cs.kind = .function →
    dp + k < recursionLimit → un + 8 * k < cLine → P h₀ L m news s Q E →
      wpAny (model prog w) (ktrTop dp un gd cn cs L a ccd cl outer) (call (.ref f) vs) Q E s
section
variable {prog : Program} {w : World} {p : Program} {loose : List Str} {mean : ExcName → Option Value} {mg mb : Str → Option Value} {k : Nat} {vs : List Value} {f : Addr} {P : (h₀ : Heap) → (L : Addr) → (m : Str → Option Value) → (news : List (Addr × Obj)) → (s : Shared) → (Q E : Value → Shared → Prop) → Prop}
  {dp un : Nat} {gd : Option (List Code)} {cn : Str} {cs : Scope} {a : Addr} {ccd : Value} {cl : List (Str × Addr)} {outer : List Env} {A₀ : Around} {base h₀ : Heap} {L : Addr} {m : Str → Option Value} {news : List (Addr × Obj)} {s : Shared} {Q E : Value → Shared → Prop}
theorem Cx.use (c : Cx prog w p loose mean mg mb k vs f P) (B : Below A₀ base outer h₀) (F : Fr h₀ L s.heap m) (X : (hd.heap_39 w.params).In h₀) (N : News h₀ L s.heap news) (T : Top p loose mean mg mb h₀) (hk : cs.kind = .function)
    (hd : dp + k < recursionLimit) (hu : un + 8 * k < cLine) (h : P h₀ L m news s Q E) : wpAny (model prog w) (ktrTop dp un gd cn cs L a ccd cl outer) (call (.ref f) vs) Q E s :=
  c _ _ _ _ _ _ _ _ _ _ _ _ _ _ _ _ _ _ B F X N T hk hd hu h
end
end
section
open PySem PySem.W PySem.Spec PySem.Calls PyProof.Rows
theorem fillUp : (PySem.Challenge.rw_ev0029_01 = PySem.Challenge.rw_ev0029_01) ∧ (hd.heap_39 = hd.heap_39) := by
  k_fill
  w_top off
  exact ⟨rfl, rfl⟩
section
variable {w : World} {h : Heap}
theorem pat_ows (X : (hd.heap_39 w.params).In h) : IsPat h 65 owsCode 0 := by k_dflt (refine' IsPat.of_K X ?a ?b ?c; (case a => k_is); (case b => k_is); (case c => (simp only [List.map_toArray, List.map_cons, List.map_nil, Builtin.Re.reRawOf]; rfl)))
theorem pat_tok (X : (hd.heap_39 w.params).In h) : IsPat h 77 tokCode 0 := by k_dflt (refine' IsPat.of_K X ?a ?b ?c; (case a => k_is); (case b => k_is); (case c => (simp only [List.map_toArray, List.map_cons, List.map_nil, Builtin.Re.reRawOf]; rfl)))
theorem pat_qs (X : (hd.heap_39 w.params).In h) : IsPat h 89 qsCode 0 := by k_dflt (refine' IsPat.of_K X ?a ?b ?c; (case a => k_is); (case b => k_is); (case c => (simp only [List.map_toArray, List.map_cons, List.map_nil, Builtin.Re.reRawOf]; rfl)))
theorem pat_uq (X : (hd.heap_39 w.params).In h) : IsPat h 94 uqCode 1 := by k_dflt (refine' IsPat.of_K X ?a ?b ?c; (case a => k_is); (case b => k_is); (case c => (simp only [List.map_toArray, List.map_cons, List.map_nil, Builtin.Re.reRawOf]; rfl)))
theorem pat_quotable (X : (hd.heap_39 w.params).In h) : IsPat h 106 quotableCode 0 := by k_dflt (refine' IsPat.of_K X ?a ?b ?c; (case a => k_is); (case b => k_is); (case c => (simp only [List.map_toArray, List.map_cons, List.map_nil, Builtin.Re.reRawOf]; rfl)))
theorem pat_qt (X : (hd.heap_39 w.params).In h) : IsPat h 111 qtCode 1 := by k_dflt (refine' IsPat.of_K X ?a ?b ?c; (case a => k_is); (case b => k_is); (case c => (simp only [List.map_toArray, List.map_cons, List.map_nil, Builtin.Re.reRawOf]; rfl)))
theorem pat_proto (X : (hd.heap_39 w.params).In h) : IsPat h 144 protoCode 0 := by k_dflt (refine' IsPat.of_K X ?a ?b ?c; (case a => k_is); (case b => k_is); (case c => (simp only [List.map_toArray, List.map_cons, List.map_nil, Builtin.Re.reRawOf]; rfl)))
end
end
section
open PySem PySem.W PySem.Spec PySem.Calls PyProof.Rows
/-- the walk halts at this goal -/
def Hold (P : Prop) : Prop := P
theorem Hold.out {P : Prop} (h : Hold P) : P := h
theorem Hold.mk {P : Prop} (h : P) : Hold P := h

/-- the frame with one name turned -/
abbrev upd (m : Str → Option Value) (nm : Str) (v : Value) : Str → Option Value := fun y => if y = nm then some v else m y
theorem upd_upd (m : Str → Option Value) (nm : Str) (u v : Value) : (fun y => if y = nm then some v else upd m nm u y) = upd m nm v := by
  funext y
  unfold upd
  split <;> rfl
theorem upd_self {m : Str → Option Value} {nm : Str} {v : Value} (h : m nm = some v) : upd m nm v = m := by
  funext y
  unfold upd
  split
  · rename_i e; rw [e, h]
  · rfl

section
variable {prog : Program} {w : World} {A : Around} {E : Value → Shared → Prop} {Q : Flow → Shared → Prop} {s : Shared} {env : Env} {h₀ : Heap} {L : Addr}
/-- a turn of a while is through; the loop is left -/
def WOne (h₀ : Heap) (L : Addr) (s : Shared) (nm : Str) (m : Str → Option Value) (news : List (Addr × Obj)) (P : Int → Prop) (μ : Int → Nat) (Q : Flow → Shared → Prop) (k : Int) (f : Flow) (s₃ : Shared) : Prop :=
  match f with
  | .next | .cont => ∃ k' t' h' tk', s₃ = { s with heap := h', toks := tk' } ∧ Fr h₀ L h' (upd m nm (.int k' t')) ∧ News h₀ L h' news ∧ P k' ∧ μ k' < μ k
  | .brk => False
  | .ret v => Q (.ret v) s₃
def WOut (h₀ : Heap) (L : Addr) (s : Shared) (nm : Str) (m : Str → Option Value) (news : List (Addr × Obj)) (X : Int → Prop) (s₃ : Shared) : Prop :=
  ∃ k' t' h' tk', s₃ = { s with heap := h', toks := tk' } ∧ Fr h₀ L h' (upd m nm (.int k' t')) ∧ News h₀ L h' news ∧ X k'
theorem while_one {nm : Str} {test : Expr} {body : List Stmt} {pos : Pos} {m : Str → Option Value} {news : List (Addr × Obj)} {k₀ : Int} {t₀ : Tok} (P : Int → Prop) (μ : Int → Nat) (X : Int → Prop)
    (F : Fr h₀ L s.heap m) (N : News h₀ L s.heap news) (hm : m nm = some (.int k₀ t₀)) (hP : P k₀)
    (turn : ∀ k t h tk, P k → Fr h₀ L h (upd m nm (.int k t)) → News h₀ L h news →
      wpAny (model prog w) A (isTrue test env (eval test env)) (fun b s₂ => if b = true then wpAny (model prog w) A (execs body env) (WOne h₀ L s nm m news P μ Q k) E s₂ else WOut h₀ L s nm m news X s₂) E { s with heap := h, toks := tk })
    (exit : ∀ k t h tk, X k → Fr h₀ L h (upd m nm (.int k t)) → News h₀ L h news → Q .next { s with heap := h, toks := tk })
    (hE : PassesOwn (model prog w) A env E := by passes_own) :
    wpAny (model prog w) A (exec (.While test body [] pos) env) Q E s := by
  refine While_inv2 (fun n m₁ nx => nx = news ∧ ∃ k t, m₁ = upd m nm (.int k t) ∧ P k ∧ n = μ k) F N ⟨rfl, k₀, t₀, (upd_self hm).symm, hP, rfl⟩ ?_ hE
  rintro n m₁ nx h tk F₁ N₁ ⟨rfl, k, t, rfl, hp, rfl⟩
  refine wpAny_mono (turn k t h tk hp F₁ N₁) (fun b s₂ q => ?_) fun _ _ x => x
  cases b with
  | false =>
    simp only [Bool.false_eq_true, if_false] at q ⊢
    obtain ⟨k', t', h', tk', rfl, F', N', hx⟩ := q
    exact exit k' t' h' tk' hx F' N'
  | true =>
    simp only [if_true] at q ⊢
    refine wpAny_mono q (fun f s₃ r => ?_) fun _ _ x => x
    cases f with
    | next => obtain ⟨k', t', h', tk', rfl, F', N', hp', hμ⟩ := r; exact ⟨h', tk', _, _, _, rfl, F', N', hμ, rfl, k', t', rfl, hp', rfl⟩
    | cont => obtain ⟨k', t', h', tk', rfl, F', N', hp', hμ⟩ := r; exact ⟨h', tk', _, _, _, rfl, F', N', hμ, rfl, k', t', rfl, hp', rfl⟩
    | brk => exact r.elim
    | ret v => exact r
theorem WOne.of {nm : Str} {m : Str → Option Value} {news news' : List (Addr × Obj)} {P : Int → Prop} {μ : Int → Nat} {k k' : Int} {t' : Tok} {u : Value} {h' : Heap} {tk' : Nat}
    (F : Fr h₀ L h' (fun y => if y = nm then some (.int k' t') else upd m nm u y)) (N : News h₀ L h' news') (hs : ∀ p ∈ news, p ∈ news') (hp : P k') (hμ : μ k' < μ k) : WOne h₀ L s nm m news P μ Q k .next { s with heap := h', toks := tk' } :=
  ⟨k', t', h', tk', rfl, (upd_upd m nm u (.int k' t')) ▸ F, fun p hp => N p (hs p hp), hp, hμ⟩
theorem WOut.of {nm : Str} {m : Str → Option Value} {news news' : List (Addr × Obj)} {X : Int → Prop} {k' : Int} {t' : Tok} {h' : Heap} {tk' : Nat}
    (F : Fr h₀ L h' (upd m nm (.int k' t'))) (N : News h₀ L h' news') (hs : ∀ p ∈ news, p ∈ news') (hx : X k') : WOut h₀ L s nm m news X { s with heap := h', toks := tk' } :=
  ⟨k', t', h', tk', rfl, F, fun p hp => N p (hs p hp), hx⟩
end
end
section
open PySem PySem.W PySem.Spec PySem.Calls PyProof.Rows
open Sem (wp)
/-- the object's own dict -/
def DictAt (h : Heap) (e : Addr) (d : Option Addr) : Prop := ∃ o, h.get? e = some o ∧ o.dict = d
theorem DictAt.push {h : Heap} {e : Addr} {d : Option Addr} (x : DictAt h e d) (o : Obj) : DictAt (h.push o) e d :=
  let ⟨o', h1, h2⟩ := x; ⟨o', Heap.get?_push_of_some _ h1, h2⟩
theorem DictAt.update {h : Heap} {e a : Addr} {d : Option Addr} {f : Obj → Obj} (x : DictAt h e d) (hf : ∀ o, (f o).dict = o.dict ∧ (f o).isFreed = o.isFreed) : DictAt (h.update a f) e d := by
  obtain ⟨o', h1, h2⟩ := x
  by_cases q : a = e
  · subst q
    exact ⟨_, Heap.get?_update_self f h1 ((hf o').2.trans (Heap.get?_some_iff.mp h1).2), (hf o').1.trans h2⟩
  · exact ⟨o', (Heap.get?_update_other _ _ q).trans h1, h2⟩
theorem mapFields_same (g : Array Value → Array Value) (o : Obj) : (Obj.mapFields g o).dict = o.dict ∧ (Obj.mapFields g o).isFreed = o.isFreed := by
  obtain ⟨c, d, dt, sl⟩ := o
  cases dt <;> exact ⟨rfl, rfl⟩
structure KeepsD {α : Type} (t : Sem α) : Prop where
  out : ∀ (M : Model) (Γ : PySem.Ctx) (P : α → Pos → Shared → Prop) (Ee : Value → Pos → Shared → Prop) (p : Pos) (s : Shared) (e : Addr) (d : Option Addr), DictAt s.heap e d → wp M Γ t P Ee p s →
    wp M Γ t (fun a p' s' => P a p' s' ∧ DictAt s'.heap e d) Ee p s
namespace KeepsD
variable {α β : Type}
theorem pure (a : α) : KeepsD (Pure.pure a : Sem α) := ⟨fun _ _ _ _ _ _ _ _ hd h => ⟨h, hd⟩⟩
theorem unsupported (w : String) : KeepsD (PySem.unsupported w : Sem α) := ⟨fun _ _ _ _ _ _ _ _ _ h => False.elim h⟩
theorem bind {m : Sem α} {f : α → Sem β} (hm : KeepsD m) (hf : ∀ a, KeepsD (f a)) : KeepsD (m >>= f) := ⟨fun M Γ P Ee p s e d hd h => by
  rw [Sem.wp_bind'] at h ⊢
  exact Sem.wp_mono M Γ m (fun a p' s' h' => (hf a).out M Γ P Ee p' s' e d h'.2 h'.1) (fun _ _ _ x => x) p s (hm.out M Γ _ Ee p s e d hd h)⟩
theorem ite {c : Prop} [Decidable c] {t u : Sem α} (ht : KeepsD t) (hu : KeepsD u) : KeepsD (if c then t else u) := by split <;> assumption
theorem load (a : Addr) : KeepsD (PySem.load a) := ⟨fun _ _ _ _ _ _ _ _ hd h => by
  unfold PySem.load at h ⊢
  simp only [Sem.wp_load, Sem.wp_pure] at h ⊢
  obtain ⟨o, ho, h⟩ := h
  exact ⟨o, ho, h, hd⟩⟩
theorem update (a : Addr) (f : Obj → Obj) (hf : ∀ o, (f o).dict = o.dict ∧ (f o).isFreed = o.isFreed) : KeepsD (PySem.update a f) := ⟨fun _ _ _ _ _ _ _ _ hd h => by
  obtain ⟨h1, h2⟩ := h
  exact ⟨h1, h2, hd.update hf⟩⟩
theorem stack : KeepsD PySem.stack := ⟨fun M Γ P Ee p s e d hd h => by
  unfold PySem.stack at h ⊢
  rw [Sem.wp_stack] at h ⊢
  exact ⟨h, hd⟩⟩
theorem alloc (o : Obj) : KeepsD (PySem.alloc o) := ⟨fun _ _ _ _ _ _ _ _ hd h => ⟨h, hd.push o⟩⟩
theorem field (v : Value) (i : Nat) : KeepsD (PySem.field v i) := ⟨fun _ Γ P Ee p s e d hd h => by
  obtain ⟨a, o, vs, x, h1, h2, h3, h4, h5⟩ := (wp_field_iff Γ v i P Ee p s).mp h
  exact (wp_field_iff Γ v i _ Ee p s).mpr ⟨a, o, vs, x, h1, h2, h3, h4, h5, hd⟩⟩
theorem setField (v : Value) (i : Nat) (x : Value) : KeepsD (PySem.setField v i x) := ⟨fun _ Γ P Ee p s e d hd h => by
  obtain ⟨a, o, vs, h1, h2, h3, h4, h5⟩ := (wp_setField_iff Γ v i x P Ee p s).mp h
  exact (wp_setField_iff Γ v i x _ Ee p s).mpr ⟨a, o, vs, h1, h2, h3, h4, h5, hd.update (mapFields_same _)⟩⟩
end KeepsD
theorem keepsD_behindIsImport (env : Env) (outer : List Env) : KeepsD (behindIsImport env outer) := by
  unfold behindIsImport
  (repeat' with_reducible first | assumption | exact KeepsD.pure _ | exact KeepsD.unsupported _ | exact KeepsD.field _ _ | exact KeepsD.setField _ _ _ | exact KeepsD.load _ | exact KeepsD.stack | exact KeepsD.alloc _ | apply KeepsD.ite | apply KeepsD.bind | intro _ | split)
theorem keepsD_underTheClaimsCaller : KeepsD underTheClaimsCaller := by
  unfold underTheClaimsCaller
  (repeat' with_reducible first | assumption | exact KeepsD.pure _ | exact KeepsD.unsupported _ | exact KeepsD.field _ _ | exact KeepsD.setField _ _ _ | exact KeepsD.load _ | exact KeepsD.stack | exact KeepsD.alloc _ | apply KeepsD.ite | apply KeepsD.bind | intro _ | split)
theorem keepsD_keptBack (env : Env) (i : Bool) (l : List Env) : KeepsD (keptBack env i l) := by
  have := keepsD_underTheClaimsCaller
  cases l <;> unfold keptBack <;> (repeat' with_reducible first | assumption | exact KeepsD.pure _ | exact KeepsD.unsupported _ | exact KeepsD.field _ _ | exact KeepsD.setField _ _ _ | exact KeepsD.load _ | exact KeepsD.stack | exact KeepsD.alloc _ | apply KeepsD.ite | apply KeepsD.bind | intro _ | split)
theorem keepsD_readyFrames : ∀ l : List Env, KeepsD (readyFrames l)
  | [] => KeepsD.pure _
  | env :: outer => by
    have ih := keepsD_readyFrames outer
    have h1 := keepsD_behindIsImport env outer
    have h2 := fun i => keepsD_keptBack env i outer
    unfold readyFrames
    (repeat' with_reducible first | assumption | exact KeepsD.pure _ | exact KeepsD.unsupported _ | exact KeepsD.field _ _ | exact KeepsD.setField _ _ _ | exact KeepsD.load _ | exact KeepsD.stack | exact KeepsD.alloc _ | apply KeepsD.ite | apply KeepsD.bind | intro _ | split)
    all_goals first | exact h2 _ | exact KeepsD.update _ _ (fun o => ⟨rfl, kts_isFreed o _⟩) | skip
theorem keepsD_frameObject (l : List Env) : KeepsD (frameObject l) := by
  cases l with
  | nil => exact KeepsD.pure _
  | cons env outer =>
    have := keepsD_readyFrames (env :: outer)
    unfold frameObject
    (repeat' with_reducible first | assumption | exact KeepsD.pure _ | exact KeepsD.unsupported _ | exact KeepsD.field _ _ | exact KeepsD.setField _ _ _ | exact KeepsD.load _ | exact KeepsD.stack | exact KeepsD.alloc _ | apply KeepsD.ite | apply KeepsD.bind | intro _ | split)
theorem keepsD_frameEnvs : KeepsD frameEnvs := by
  unfold frameEnvs
  (repeat' with_reducible first | assumption | exact KeepsD.pure _ | exact KeepsD.unsupported _ | exact KeepsD.field _ _ | exact KeepsD.setField _ _ _ | exact KeepsD.load _ | exact KeepsD.stack | exact KeepsD.alloc _ | apply KeepsD.ite | apply KeepsD.bind | intro _ | split)
theorem keepsD_frameOf (env : Env) : KeepsD (PySem.frameOf env) := by
  have h1 := keepsD_frameEnvs
  have h2 := keepsD_frameObject
  unfold PySem.frameOf
  (repeat' with_reducible first | assumption | exact KeepsD.pure _ | exact KeepsD.unsupported _ | exact KeepsD.field _ _ | exact KeepsD.setField _ _ _ | exact KeepsD.load _ | exact KeepsD.stack | exact KeepsD.alloc _ | apply KeepsD.ite | apply KeepsD.bind | intro _ | split)
  all_goals first | exact h2 _ | skip
theorem keepsD_entryPlaceOf (f : Addr) (hadNext : Bool) : KeepsD (entryPlaceOf f hadNext) := by
  unfold entryPlaceOf
  (repeat' with_reducible first | assumption | exact KeepsD.pure _ | exact KeepsD.unsupported _ | exact KeepsD.field _ _ | exact KeepsD.setField _ _ _ | exact KeepsD.load _ | exact KeepsD.stack | exact KeepsD.alloc _ | apply KeepsD.ite | apply KeepsD.bind | intro _ | split)
theorem keepsD_newEntry (a b c d e : Value) (l : List Value) : KeepsD (EntryCells.newEntry a b c d e l) := by
  unfold EntryCells.newEntry newFields newObj newObjAsIs
  dsimp only
  (repeat' with_reducible first | assumption | exact KeepsD.pure _ | exact KeepsD.unsupported _ | exact KeepsD.field _ _ | exact KeepsD.setField _ _ _ | exact KeepsD.load _ | exact KeepsD.stack | exact KeepsD.alloc _ | apply KeepsD.ite | apply KeepsD.bind | intro _ | split)
theorem keepsD_noteFrame (e : Value) (env : Env) : KeepsD (noteFrame e env) := by
  have h1 := keepsD_frameOf env
  have h2 := keepsD_entryPlaceOf
  have h3 := keepsD_newEntry
  unfold noteFrame
  (repeat' with_reducible first | assumption | exact KeepsD.pure _ | exact KeepsD.unsupported _ | exact KeepsD.field _ _ | exact KeepsD.setField _ _ _ | exact KeepsD.load _ | exact KeepsD.stack | exact KeepsD.alloc _ | apply KeepsD.ite | apply KeepsD.bind | intro _ | split)
  all_goals first | exact h2 _ _ | exact h3 _ _ _ _ _ _ | skip
theorem keepsD_setFlight (e : Value) (f : Option Addr) : KeepsD (setFlight e f) := by
  unfold setFlight
  (repeat' with_reducible first | assumption | exact KeepsD.pure _ | exact KeepsD.unsupported _ | exact KeepsD.field _ _ | exact KeepsD.setField _ _ _ | exact KeepsD.load _ | exact KeepsD.stack | exact KeepsD.alloc _ | apply KeepsD.ite | apply KeepsD.bind | intro _ | split)
theorem keepsD_leaving (env : Env) (e : Value) : KeepsD (leaving env e) := by
  unfold leaving
  exact KeepsD.bind (keepsD_noteFrame _ _) fun _ => keepsD_setFlight _ _
theorem KeepsD.any {α : Type} {t : Sem α} (k : KeepsD t) {M : Model} {A : Around} {Q : α → Shared → Prop} {E : Value → Shared → Prop} {s : Shared} {e : Addr} {d : Option Addr} (hd : DictAt s.heap e d) (h : wpAny M A t Q E s) :
    wpAny M A t (fun a s' => Q a s' ∧ DictAt s'.heap e d) E s := by
  intro Γ p hΓ
  exact k.out M Γ _ _ p s e d hd (h Γ p hΓ)
end
section
open PySem PySem.W PySem.Spec PySem.Calls PyProof.Rows
/-- the exception of the project, on its way up from a frame, with its place -/
def Flown (base G : Heap) (l : List Env) (e : Addr) (k : Int) (news : List (Addr × Obj)) (h : Heap) : Prop :=
  ∃ d es n t, RaisedSN base G l e (.ref 50) ((d, dictOf es n) :: news) h ∧ G.UpToSlots h ∧ DictAt h e (some d) ∧ d ≠ e ∧ getL "pos" es = some (some (.int k t))
theorem raised_sub {base G : Heap} {l : List Env} {e : Addr} {cls : Value} {news news' : List (Addr × Obj)} {h : Heap} (R : RaisedSN base G l e cls news' h) (hs : ∀ p ∈ news, p ∈ news') : RaisedSN base G l e cls news h := by
  obtain ⟨B, a0, hB, hBG, hl, hfl⟩ := R
  exact ⟨B, a0, hB, hBG, fun q hq => hl q (hs q hq), hfl⟩
theorem Flown.sub {base G : Heap} {l : List Env} {e : Addr} {k : Int} {news news' : List (Addr × Obj)} {h : Heap} (R : Flown base G l e k news' h) (hs : ∀ p ∈ news, p ∈ news') : Flown base G l e k news h := by
  obtain ⟨d, es, n, t, h1, h2, h3, h4, h5⟩ := R
  refine ⟨d, es, n, t, raised_sub h1 ?_, h2, h3, h4, h5⟩
  intro p hp
  rcases List.mem_cons.mp hp with rfl | hp
  · exact List.mem_cons_self ..
  · exact List.mem_cons_of_mem _ (hs p hp)
/-- what an exception that leaves a call owes its caller -/
abbrev Owed (base h₀ : Heap) (L : Addr) (m : Str → Option Value) (l : List Env) (news : List (Addr × Obj)) (s : Shared) (E : Value → Shared → Prop) (k : Int) : Prop :=
  ∀ (e : Addr) (g : Heap) (h' : Heap) (tk : Nat), Fr h₀ L g m → Flown base g l e k news h' → E (.ref e) { s with heap := h', toks := tk }

section
variable {M : Model} {A : Around} {E : Value → Shared → Prop} {s' : Shared} {base g g₂ h : Heap} {outer : List Env} {L a e : Addr} {m : Str → Option Value} {name : Str} {scope : Scope} {cd : Value} {Q : Unit → Shared → Prop} {news : List (Addr × Obj)}
/-- it leaves the frame where it was raised -/
theorem leave_first {eo : Obj} {es : List DictEntry} {n : Nat} {d : Addr} {k : Int} {t : Tok} {vs : Array Value} {a0 : Value} (K : Below A base outer g) (F : Fr g L s'.heap m) (N : News g L s'.heap ((e, eo) :: (d, dictOf es n) :: news))
    (hne : ∀ p ∈ (d, dictOf es n) :: news, p.1 ≠ e) (hc : eo.cls = .ref 50) (hdt : eo.data = .fields vs) (h1 : vs[1]? = some .none) (h0 : vs[0]? = some a0) (hdd : eo.dict = some d) (hp : getL "pos" es = some (some (.int k t)))
    (hQ : ∀ h', Flown base g outer e k news h' → Q () { s' with heap := h' }) (hk : scope.kind = .function := by rfl) :
    wpAny M (A.deeper (envOf name scope L a cd)) (leaving (envOf name scope L a cd) (.ref e)) Q E s' := by
  have K' := K.push (name := name) (a := a) (cd := cd) F hk
  have hin : ∀ env ∈ (envOf name scope L a cd :: outer), ∀ b, env.frame = some b → b ∈ e :: (envOf name scope L a cd :: outer).filterMap (·.frame) := fun env he b hb => List.mem_cons_of_mem _ (List.mem_filterMap.mpr ⟨env, he, hb⟩)
  have Ne := N _ (List.mem_cons_self ..)
  have be : base.get? e = none := fresh_of_stays K.stays Ne.2.2
  have st : base.StaysIn (hideAll s'.heap (e :: (envOf name scope L a cd :: outer).filterMap (·.frame))) := fun b o q => hideAll_get _ (K'.stays b o q) fun hm => by
    rcases List.mem_cons.mp hm with rfl | hm
    · rw [be] at q; cases q
    · rw [(K'.frames.mem hm).1] at q; cases q
  have sg : ∀ b o, g.get? b = some o → b ∉ outer.filterMap (·.frame) → (hideAll s'.heap (e :: (envOf name scope L a cd :: outer).filterMap (·.frame))).get? b = some o := fun b o q nm => hideAll_get _ (F.keep b o q) fun hm => by
    rcases List.mem_cons.mp hm with rfl | hm
    · rw [Ne.2.2] at q; cases q
    · rcases kts_mem hm with z | z
      · rw [z, kts_self F] at q
        cases q
      · exact nm z
  have hl : ∀ q ∈ (d, dictOf es n) :: news, (hideAll s'.heap (e :: (envOf name scope L a cd :: outer).filterMap (·.frame))).get? q.1 = some q.2 ∧ g.get? q.1 = none ∧ base.get? q.1 = none := fun q hq => by
    have Nq := N q (List.mem_cons_of_mem _ hq)
    refine ⟨hideAll_get _ Nq.1 fun hm => ?_, Nq.2.2, fresh_of_stays K.stays Nq.2.2⟩
    rcases List.mem_cons.mp hm with z | hm
    · exact hne q hq z
    · obtain ⟨env, he, hf⟩ := List.mem_filterMap.mp hm
      rcases List.mem_cons.mp he with rfl | he
      · exact Nq.2.1 (Option.some.inj hf).symm
      · obtain ⟨o, ho, _⟩ := (K.frames.mem (List.mem_filterMap.mpr ⟨env, he, hf⟩)).2
        rw [Nq.2.2] at ho; cases ho
  have R := (keepsD_leaving (envOf name scope L a cd) (.ref e)).any (M := M) (E := E) (e := e) (d := some d) ⟨eo, Ne.1, hdd⟩
    (wpAny_leaving_firstW (Q := fun _ s₃ => ∃ h', s₃ = { s' with heap := h' } ∧ RaisedSN base g outer e (.ref 50) ((d, dictOf es n) :: news) h' ∧ g.UpToSlots h') (a0 := a0) K'.stack (funFrames_hide K'.frames hin) rfl Ne.1 (fun b o hb => of_hideAll _ hb) (hideAll_none _ (List.mem_cons_self ..)) hdt h1 h0 fun h' hL => by
      obtain ⟨k1, ⟨_, _, k2⟩, k3, k4⟩ := hL
      exact ⟨h', rfl, ⟨_, a0, st, sg, hl, k1, hideAll_none _ (List.mem_cons_self ..), k2, by rw [← hc]; exact k3⟩, (Heap.UpToSlots.of_keeps F.keep).trans k4⟩)
  refine wpAny_mono R (fun _ s₃ r => ?_) fun _ _ x => x
  obtain ⟨⟨h', rfl, r1, r2⟩, r3⟩ := r
  exact hQ h' ⟨d, es, n, t, r1, r2, r3, hne _ (List.mem_cons_self ..), hp⟩
/-- it leaves a frame further out -/
theorem leave_next {k : Int} (K : Below A base outer g) (F : Fr g L g₂ m) (R : Flown base g₂ (envOf name scope L a cd :: outer) e k news s'.heap)
    (hQ : ∀ h', Flown base g outer e k news h' → Q () { s' with heap := h' }) :
    wpAny M (A.deeper (envOf name scope L a cd)) (leaving (envOf name scope L a cd) (.ref e)) Q E s' := by
  obtain ⟨d, es, n, t, h1, h2, h3, h4, h5⟩ := R
  have R := (keepsD_leaving (envOf name scope L a cd) (.ref e)).any (M := M) (E := E) h3 (leave_onSN (Q := fun _ s₃ => ∃ h', s₃ = { s' with heap := h' } ∧ RaisedSN base g outer e (.ref 50) ((d, dictOf es n) :: news) h' ∧ g.UpToSlots h') K F h1 h2 fun h' r _ u => ⟨h', rfl, r, u⟩)
  refine wpAny_mono R (fun _ s₃ r => ?_) fun _ _ x => x
  obtain ⟨⟨h', rfl, r1, r2⟩, r3⟩ := r
  exact hQ h' ⟨d, es, n, t, r1, r2, r3, h4, h5⟩
end

section
variable {prog : Program} {w : World} {A : Around} {E : Value → Shared → Prop} {s : Shared} {env : Env}
/-- an exception object of the project's class, ready to be raised -/
def RaisableX (w : World) (E : Value → Shared → Prop) (v : Value) (s₁ : Shared) : Prop :=
  ∃ a ob vs, v = .ref a ∧ s₁.heap.get? a = some ob ∧ ob.cls = .ref 50 ∧ ob.data = .fields vs ∧ vs[1]? = some .none ∧ (hd.heap_39 w.params).In s₁.heap ∧ E (.ref a) s₁
abbrev excBm : List Value := [.type "Exception", .type "BaseException", .type "object"]
theorem cls50_of {K : Frag} {h : Heap} (X : K.In h) {nm q : Str} {bs : List Value} {sn : List Str} {sub : List Value} {ab : Bool} {col : Option Bool} {dd : Option Addr} {k0 k1 k2 k3 k5 : Option Value}
    (e : K.lookup 50 = some (excClassObj nm q 50 49 bs excBm true sn sub ab col dd k0 k1 k2 k3 k5 "Exception.__new__")) :
    ∃ nm q bs sn sub ab col dd k0 k1 k2 k3 k5, h.get? 50 = some (excClassObj nm q 50 49 bs excBm true sn sub ab col dd k0 k1 k2 k3 k5 "Exception.__new__") :=
  ⟨nm, q, bs, sn, sub, ab, col, dd, k0, k1, k2, k3, k5, X _ _ e⟩
theorem cls50 {h : Heap} (X : (hd.heap_39 w.params).In h) : ∃ nm q bs sn sub ab col dd k0 k1 k2 k3 k5, h.get? 50 = some (excClassObj nm q 50 49 bs excBm true sn sub ab col dd k0 k1 k2 k3 k5 "Exception.__new__") := by
  k_dflt (refine' cls50_of X ?a; (case a => k_is))
theorem raise_own50 {x : Expr} {pos : Pos} {Q : Flow → Shared → Prop} (h : wpAny (model prog w) A (eval x env) (RaisableX w E) E s) (hh : A.handled = none) : wpAny (model prog w) A (exec (.Raise (some x) none pos) env) Q E s := by
  show wpAny (model prog w) A (do standAt pos; raiseStmt env (some (do let v ← eval x env; standAt pos; pure v)) none) Q E s
  refine wpAny_bind (wpAny_standAt ?_)
  unfold raiseStmt
  dsimp only
  refine wpAny_bind (wpAny_bind (wpAny_mono h (fun v s₁ h₁ => wpAny_bind (wpAny_standAt (wpAny_pure ?_))) fun _ _ x => x))
  obtain ⟨a, ob, vs, rfl, ha, hc, hd, h1, X, hE⟩ := h₁
  obtain ⟨nm, q, bs, sn, sub, ab, col, dd, k0, k1, k2, k3, k5, hC⟩ := cls50 X
  obtain ⟨hp, g, d, tk, os⟩ := s₁
  have hcB : (Value.ref 50 :: excBm).contains (.type "BaseException") = true := by decide
  repeat (first | (with_reducible refine wpAny_loadPart_at ha ?_; (try rw [hd]); (try rw [hc])) | with_reducible refine wpAny_loadPart_at hC ?_ | (with_reducible refine wpAny_isSubtype_exc hC ?_; rw [hcB]) | with_reducible refine wpAny_field ha hd h1 ?_ | wp_step)
  all_goals exact wpAny_raiseNew_none hh hE
end
end
section
open PySem PySem.W PySem.Spec PySem.Calls PyProof.Rows Builtin Builtin.ObjectAttr
section
variable {prog : Program} {w : World} {A : Around} {E : Value → Shared → Prop} {s : Shared} {e d L : Addr} {h₀ : Heap} {m : Str → Option Value} {news l : List (Addr × Obj)} {eo : Obj} {es : List DictEntry} {n : Nat} {name : Str} {v : Value} {K : Frag}
/-- object.__setattr__ upon an exception of the class at 50, to the store itself -/
theorem osa_exc {od : Option Obj} {tk : Tok} {cd : ClassData} {R : Result → Shared → Prop} (X : K.In s.heap) (I : InstAt s.heap e eo 50 od) (hc : clsIn K 50 = some cd) (hm : cd.mro = .ref 50 :: excBm) (ht : findIn K (.ref 50) name = some none)
    (h : wpAny (model prog w) A.in1 (storeInOwnDict (.ref e) (.ref 50) (.str name tk) name v false)
      (fun fin s' => match fin with | .done f => R (.ok f) s' | .again c' => c'.quiet = true ∧ codeAny (model prog w) A c' R s') (fun e s' => R (.error e) s') s) :
    codeAny (model prog w) A (.call (.builtin "object.__setattr__") ⟨[.ref e, .str name tk, v], []⟩) R s := by
  have SF := PySem.F.store_Exception
  have sub : Looks (model prog w) s.heap (isInstance (.ref e) (.type "object")) true := I.type.andThen (looks_mroIn X (by unfold mroIn; rw [hc, Option.bind_some, hm]; rfl))
  refine codeAny_call_builtin SF.slot.plain SF.entry (@check_slot (model prog w) _ _ s "object.__setattr__" "object" "__setattr__" (.ref e) [.str name tk, v] [] _ SF.kind SF.split sub (SF.args (.ref e) (.str name tk) v) ?_)
  have hmr : Looks (model prog w) s.heap (mroOf (.ref 50)) cd.mro := (looks_clsIn X hc).andThen .now
  rw [osa_eq, refuse_eq]
  refine wpAny_bind (wpAny_bind (I.type.here (wpAny_bind (hmr.here ?_))))
  rw [hm, refuseLoop_ref, SF.passes]
  exact wpAny_pure (wpAny_bind (I.type.here (wpAny_bind ((looks_findIn X ht).here (wpAny_bind (wpAny_pure h))))))
/-- a name laid into a dict of the ledger -/
theorem store_led {pre post : List (Addr × Obj)} {tk : Tok} {Q : Fin → Shared → Prop} (F : Fr h₀ L s.heap m) (N : News h₀ L s.heap (pre ++ (d, dictOf es n) :: post)) (h1 : ∀ p ∈ pre, p.1 ≠ d) (h2 : ∀ p ∈ post, p.1 ≠ d)
    (hl : (getL name es).isSome = true) (hz : (putL name (PyData.keyHash w.params name) (.str name s.toks) v es).length ≤ 1000)
    (h : ∀ h', Fr h₀ L h' m → News h₀ L h' (pre ++ (d, dictOf (putL name (PyData.keyHash w.params name) (.str name s.toks) v es) (putN name es n)) :: post) → Q (.done (.ret .none)) { s with heap := h', toks := s.toks + 1 }) :
    wpAny (model prog w) A (storeInDict d (.str name tk) name v) Q E s := by
  obtain ⟨U1, U2⟩ := news_upd (f := Obj.putName name (PyData.keyHash w.params name) (.str name s.toks) v) F N h1 h2 (putName_dict ..) rfl
  have D := (N (d, dictOf es n) (by simp)).1
  have D' := (U2 (d, dictOf (putL name (PyData.keyHash w.params name) (.str name s.toks) v es) (putN name es n)) (List.mem_append_right _ (List.mem_cons_self ..))).1
  unfold storeInDict newKeyGuard
  refine wpAny_bind (wpAny_pure (wpAny_bind ?_))
  unfold nsSet
  refine wpAny_bind (wpAny_bind (wpAny_askSetting (wpAny_pure (wpAny_bind (wpAny_mkText (wpAny_bind (wpAny_loadPart D ?_)))))))
  dsimp only
  have c : (!es.toArray.any (·.key.isStr name) && es.toArray.any (·.refKey)) = false := by
    rw [← Array.any_toList, ← Array.any_toList]
    unfold getL at hl
    split at hl
    · rename_i en he
      rw [List.any_eq_true.mpr ⟨en, List.mem_of_find?_eq_some he, List.find?_some he⟩]; rfl
    · split at hl
      · cases hl
      · rename_i z; rw [Bool.not_eq_true] at z; rw [z, Bool.and_false]
  rw [aRefKeyMayBeTheName_at, c]
  refine wpAny_updatePart D ?_
  refine wpAny_bind (wpAny_lookBehind D' (pastItsLine_dict (by rw [List.size_toArray, sizeLine_eq]; omega)) ?_)
  exact wpAny_pure (h _ U1 U2)
theorem set_exc_next {cd : ClassData} {dt : Data} {sl : Array (Option Value)} {Q : Unit → Shared → Prop} (F : Fr h₀ L s.heap m) (X : K.In h₀) (N : News h₀ L s.heap ((e, ⟨.ref 50, some d, dt, sl⟩) :: (d, dictOf es n) :: l)) (hn : notCls ⟨.ref 50, some d, dt, sl⟩ = true)
    (hde : e ≠ d) (hl2 : ∀ p ∈ l, p.1 ≠ d)
    (hc : clsIn K 50 = some cd) (hm : cd.mro = .ref 50 :: excBm) (hh : cd.hasDict = true) (hs : findIn K (.ref 50) "__setattr__" = some (some (.builtin "object.__setattr__"))) (ht : findIn K (.ref 50) name = some none)
    (hl : (getL name es).isSome = true) {es' : List DictEntry} {n' : Nat} (he : (putL name (PyData.keyHash w.params name) (.str name (s.toks + 1)) v es, putN name es n) = (es', n')) (hz : es'.length ≤ 1000)
    (h : ∀ h', Fr h₀ L h' m → News h₀ L h' ((e, ⟨.ref 50, some d, dt, sl⟩) :: (d, dictOf es' n') :: l) → Q () { s with heap := h', toks := s.toks + 2 }) :
    wpAny (model prog w) A (setAttr (.ref e) name v) Q E s := by
  obtain ⟨e1, e2⟩ := Prod.mk.inj he
  have X' := X.keeps F.keep
  have hx := (N _ (List.mem_cons_self ..)).1
  have I : InstAt s.heap e ⟨.ref 50, some d, dt, sl⟩ 50 (some (dictOf es n)) := ⟨hx, rfl, hn, (N _ (List.mem_cons_of_mem _ (List.mem_cons_self ..))).1⟩
  refine set_plain X' I hs ?_
  refine osa_exc (s := { s with toks := s.toks + 1 }) X' I hc hm ht ?_
  refine wpAny_bind (wpAny_pure (wpAny_bind (wpAny_bind (wpAny_loadPart hx (wpAny_bind (looks_clsIn X' hc _ _ _ _ (fun _ _ e => e) ?_))))))
  rw [hh]
  refine wpAny_pure (a := some d) (wpAny_bind (wpAny_pure ?_))
  refine store_led (tk := s.toks) (s := { s with toks := s.toks + 1 }) (pre := [(e, ⟨.ref 50, some d, dt, sl⟩)]) F N (fun p hp => by rw [List.mem_singleton.mp hp]; exact hde) hl2 hl (by rw [e1]; exact hz) fun h' F' N' => ?_
  rw [e1, e2] at N'
  exact h h' F' N'
theorem set_exc_first {cd : ClassData} {dt : Data} {sl : Array (Option Value)} {Q : Unit → Shared → Prop} (F : Fr h₀ L s.heap m) (X : K.In h₀) (N : News h₀ L s.heap ((e, ⟨.ref 50, none, dt, sl⟩) :: l)) (hn : notCls ⟨.ref 50, none, dt, sl⟩ = true) (hf : ∀ d', (⟨.ref 50, some d', dt, sl⟩ : Obj).isFreed = false)
    (hl2 : ∀ p ∈ l, p.1 ≠ e)
    (hc : clsIn K 50 = some cd) (hm : cd.mro = .ref 50 :: excBm) (hh : cd.hasDict = true) (hs : findIn K (.ref 50) "__setattr__" = some (some (.builtin "object.__setattr__"))) (ht : findIn K (.ref 50) name = some none)
    (h : ∀ h' d, Fr h₀ L h' m → News h₀ L h' ((e, ⟨.ref 50, some d, dt, sl⟩) :: (d, dictOf [⟨PyData.keyHash w.params name, .str name (s.toks + 1), v⟩] 1) :: l) → e ≠ d → (∀ p ∈ l, p.1 ≠ d) → Q () { s with heap := h', toks := s.toks + 2 }) :
    wpAny (model prog w) A (setAttr (.ref e) name v) Q E s := by
  have X' := X.keeps F.keep
  have hx := (N _ (List.mem_cons_self ..)).1
  have I : InstAt s.heap e ⟨.ref 50, none, dt, sl⟩ 50 none := ⟨hx, rfl, hn, trivial⟩
  refine set_plain X' I hs ?_
  refine osa_exc (s := { s with toks := s.toks + 1 }) X' I hc hm ht ?_
  refine wpAny_bind (wpAny_pure (wpAny_bind (wpAny_bind (wpAny_loadPart hx (wpAny_bind (looks_clsIn X' hc _ _ _ _ (fun _ _ e => e) ?_))))))
  rw [hh]
  have lt : ∀ p ∈ (e, (⟨.ref 50, none, dt, sl⟩ : Obj)) :: l, p.1 ≠ s.heap.objs.size := fun p hp => Nat.ne_of_lt (Heap.lt_size (N p hp).1)
  have F1 := F.push { cls := .type "dict", data := .dict #[] }
  have N1 : News h₀ L (s.heap.push { cls := .type "dict", data := .dict #[] }) ((s.heap.objs.size, dictOf [] 0) :: (e, ⟨.ref 50, none, dt, sl⟩) :: l) := News.push F N _
  obtain ⟨F2, N2⟩ := news_upd (f := fun o => { o with dict := some s.heap.objs.size }) (pre := [(s.heap.objs.size, dictOf [] 0)]) F1 N1 (fun p hp => by rw [List.mem_singleton.mp hp]; exact (lt _ (List.mem_cons_self ..)).symm) hl2 (o' := ⟨.ref 50, some s.heap.objs.size, dt, sl⟩) rfl (hf _)
  have N3 : News h₀ L ((s.heap.push { cls := .type "dict", data := .dict #[] }).update e fun o => { o with dict := some s.heap.objs.size }) ((e, ⟨.ref 50, some s.heap.objs.size, dt, sl⟩) :: (s.heap.objs.size, dictOf [] 0) :: l) := fun p hp => N2 p (by
    rcases List.mem_cons.mp hp with rfl | hp
    · exact List.mem_cons_of_mem _ (List.mem_cons_self ..)
    · rcases List.mem_cons.mp hp with rfl | hp
      · exact List.mem_cons_self ..
      · exact List.mem_cons_of_mem _ (List.mem_cons_of_mem _ hp))
  have hx1 : (s.heap.push { cls := .type "dict", data := .dict #[] }).get? e = some ⟨.ref 50, none, dt, sl⟩ := Heap.get?_push_of_some _ hx
  have tail : wpAny (model prog w) A.in1 (storeInDict s.heap.objs.size (.str name s.toks) name v) (fun fin s' => match fin with | .done f => (match (Except.ok f : Result) with | .ok (.ret _) => Q () s' | .ok _ => False | .error e => E e s') | .again c' => c'.quiet = true ∧ codeAny (model prog w) A c' (fun r s' => match r with | .ok (.ret _) => Q () s' | .ok _ => False | .error e => E e s') s')
      (fun e s' => E e s') { s with heap := (s.heap.push { cls := .type "dict", data := .dict #[] }).update e fun o => { o with dict := some s.heap.objs.size }, toks := s.toks + 1 } :=
    store_led (s := { s with heap := (s.heap.push { cls := .type "dict", data := .dict #[] }).update e fun o => { o with dict := some s.heap.objs.size }, toks := s.toks + 1 }) (pre := [(e, ⟨.ref 50, some s.heap.objs.size, dt, sl⟩)]) F2 N3 (fun p hp => by rw [List.mem_singleton.mp hp]; exact Nat.ne_of_lt (Heap.lt_size hx)) (fun p hp => lt p (List.mem_cons_of_mem _ hp)) rfl (by show (1 : Nat) ≤ 1000; decide)
      fun h' F' N' => h h' _ F' N' (lt _ (List.mem_cons_self ..)) (fun p hp => lt p (List.mem_cons_of_mem _ hp))
  dsimp only
  rw [if_neg (by simp [typeHasDict])]
  cases dt with
  | cls c => exact absurd hn (by simp [notCls])
  | _ => exact wpAny_bind (wpAny_alloc' (wpAny_bind (wpAny_update' hx1 (wpAny_pure tail))))
end
end
section
open PySem PySem.W PySem.Spec PySem.Calls PyProof.Rows Builtin Builtin.ObjectAttr
abbrev wrapObj (e : Addr) : Obj := { cls := .type "method-wrapper", data := .fields #[.builtin "Exception.__init__", .ref e] }
theorem typeOf_einit : typeOf (.builtin "Exception.__init__") = pure (.type "wrapper_descriptor") := by show builtinType _ = _; rw [builtinType_eq_fast]; kernel_rfl
theorem slot_wget : Slot "wrapper_descriptor" "__get__" "wrapper_descriptor.__get__" := .of (owner := "wrapper_descriptor") (n := "__get__") (by rw [typeLookup_type, builtinLookup_eq_fast]; kernel_rfl) (by decide +kernel) (by decide +kernel) (by decide +kernel)
  (by first | exact .inl (by decide +kernel) | exact .inr (by decide +kernel)) (by rw [isSubtype_type]; kernel_rfl)
theorem entry_wget : entryFor table "wrapper_descriptor.__get__" = some Builtin.«wrapper_descriptor.__get__» := entryFor_of_tree (by kernel_rfl)
theorem args_wget (a b c : Value) : argsOk "wrapper_descriptor.__get__" ⟨[a, b, c], []⟩ := by unfold argsOk; kernel_rfl
theorem owner_einit : ".".intercalate ("Exception.__init__".cutAt '.').dropLast = "Exception" := by decide +kernel
section
variable {prog : Program} {w : World} {A : Around} {E : Value → Shared → Prop} {h : Heap} {g : Array GenState} {dr : Drawn} {t : Nat} {os : OsState} {e so : Addr} {eo : Obj} {od : Option Obj} {K : Frag} {cd : ClassData}
theorem wget_run {Q : PySem.Fin → Shared → Prop} (I : InstAt h e eo 50 od) (hsub : Looks (model prog w) h (isSubtype (.ref 50) (.type "Exception")) true)
    (hq : Q (.done (.ret (.ref h.objs.size))) ⟨h.push (wrapObj e), g, dr, t, os⟩) : wpAny (model prog w) A (Builtin.«wrapper_descriptor.__get__» ⟨[.builtin "Exception.__init__", .ref e, .ref 50], []⟩) Q E ⟨h, g, dr, t, os⟩ := by
  have hx := I.at_
  have hxc := I.cls
  have hs : Looks (model prog w) h (isSubtype (.ref 50) (.type (".".intercalate ("Exception.__init__".cutAt '.').dropLast))) true := by rw [owner_einit]; exact hsub
  unfold Builtin.«wrapper_descriptor.__get__»
  repeat (first | (with_reducible refine Looks.at hs ?_) | (with_reducible refine wpAny_loadPart_at hx ?_; rw [hxc]) | (with_reducible refine wpAny_newObj_type ?_ (by size_fits)) | wp_step)
  exact hq
theorem super_ga {l : List Value} {name : Str} {tk : Tok} {Q : PySem.Fin → Shared → Prop} (X : K.In h) (I : InstAt h e eo 50 od) (hso : h.get? so = some (ks_superObj 50 e 50)) (hno : Looks (model prog w) h (opaqueClassAbove (.ref 50)) none)
    (hC : Looks (model prog w) h (mroOf (.ref 50)) cd.mro) (hl : (cd.mro.dropWhile (· != .ref 50)).drop 1 = l) (hf : alongIn K name l = some (some (.builtin "Exception.__init__")))
    (hsub : Looks (model prog w) h (isSubtype (.ref 50) (.type "Exception")) true) (hxC : e ≠ 50) (hn : (name == ("__class__" : Str)) = false)
    (hq : Q (.done (.ret (.ref h.objs.size))) ⟨h.push (wrapObj e), g, dr, t, os⟩) :
    wpAny (model prog w) A (Builtin.«super.__getattribute__» ⟨[.ref so, .str name tk], []⟩) Q E ⟨h, g, dr, t, os⟩ := by
  have hlk := slot_wget.lookup
  have hty := typeOf_einit
  have hne : (Value.ref e == Value.ref 50) = false := by simp [hxC]
  have hdt : (ks_superObj 50 e 50).data = .fields #[.ref 50, .ref e, .ref 50] := rfl
  have f0 : (#[.ref 50, .ref e, .ref 50] : Array Value)[0]? = some (.ref 50) := rfl
  have f1 : (#[.ref 50, .ref e, .ref 50] : Array Value)[1]? = some (.ref e) := rfl
  have f2 : (#[.ref 50, .ref e, .ref 50] : Array Value)[2]? = some (.ref 50) := rfl
  have hT : (⟨h, g, dr, t, os⟩ : Shared).TypeIs (.builtin "Exception.__init__") "wrapper_descriptor" := typeOf_einit
  unfold Builtin.«super.__getattribute__»
  repeat (first
    | (with_reducible refine wpAny_field hso hdt f0 ?_) | (with_reducible refine wpAny_field hso hdt f1 ?_) | (with_reducible refine wpAny_field hso hdt f2 ?_)
    | (with_reducible refine ks_wpAny_notOpaque hno ?_)
    | (with_reducible refine Looks.at hC ?_; rw [hl])
    | (refine ks_forIn_along X (fun _ _ => rfl) rfl ?_ hf)
    | (with_reducible refine wpAny_typeOf hT ?_)
    | (with_reducible refine wpAny_call_entry slot_wget hT entry_wget (wget_run I hsub ?_) (args_wget _ _ _))
    | (with_reducible refine ⟨_, rfl, ?_⟩)
    | (simp only [hn, hne, Bool.or_false, Bool.false_eq_true, if_false])
    | wp_step
    | dsimp only)
  all_goals exact hq
theorem super_method {pl : Sem Bool} {Q : Value × List Value → Shared → Prop} (X : K.In h) (I : InstAt h e eo 50 od) (hso : h.get? so = some (ks_superObj 50 e 50)) (hno : Looks (model prog w) h (opaqueClassAbove (.ref 50)) none)
    (hc : clsIn K 50 = some cd) (hm : cd.mro = .ref 50 :: excBm) (hxC : e ≠ 50)
    (hq : Q (.ref h.objs.size, []) ⟨h.push (wrapObj e), g, dr, t + 1, os⟩) :
    wpAny (model prog w) A (getMethod (.ref so) "__init__" pl) Q E ⟨h, g, dr, t, os⟩ := by
  have hC : Looks (model prog w) h (mroOf (.ref 50)) cd.mro := (looks_clsIn X hc).andThen .now
  have hl : (cd.mro.dropWhile (· != .ref 50)).drop 1 = excBm := by rw [hm]; rfl
  have hf : alongIn K "__init__" excBm = some (some (.builtin "Exception.__init__")) := by
    have : ownIn K "__init__" (.type "Exception") = some (some (.builtin "Exception.__init__")) := by kernel_rfl
    unfold alongIn
    rw [this]
  have hsub : Looks (model prog w) h (isSubtype (.ref 50) (.type "Exception")) true := looks_mroIn X (by unfold mroIn; rw [hc, Option.bind_some, hm]; rfl)
  have hlk := F.ks_slot_super_ga.lookup
  have hcan := F.ks_canon_super_ga
  have hT : ∀ t', (⟨h, g, dr, t', os⟩ : Shared).TypeIs (.ref so) "super" := fun _ => ⟨_, hso, rfl⟩
  unfold getMethod
  refine wpAny_bind (wpAny_specialOf (hT _) hlk ?_)
  show wpAny _ _ (if (Manifest.canonical "super.__getattribute__" != "object.__getattribute__") = true then _ else _) _ _ _
  rw [if_pos hcan]
  unfold getAttr getAttrBy
  refine wpAny_bind (wpAny_bind (wpAny_mkText (wpAny_holding (wpAny_bind (wpAny_typeOf (hT _) (wpAny_bind (wpAny_of_eq hlk ?_)))))))
  show wpAny _ _ (getAttrByItsOwn (.ref so) (.str "__init__" t) (.type "super") (.builtin "super.__getattribute__") true false) _ _ _
  unfold getAttrByItsOwn hookBefore callGetattribute boundAndCalled
  refine wpAny_bind (wpAny_of_eq (show (if onTheHeap (.type "super") then typeLookup (.type "super") "__getattr__" else pure none) = pure none from rfl) ?_)
  refine wpAny_bind (wpAny_attempt (wpAny_holding ?_))
  show wpAny _ _ (bindSpecial (.builtin "super.__getattribute__") (.ref so) >>= _) _ _ _
  refine wpAny_bind (wpAny_of_eq (F.ks_slot_super_ga.bind _) ?_)
  refine wpAny_mono (Q := fun v s' => v = .ref h.objs.size ∧ s' = ⟨h.push (wrapObj e), g, dr, t + 1, os⟩) (E := fun _ _ => False)
    (wpAny_call_entry F.ks_slot_super_ga (hT _) F.ks_entry_super_ga (super_ga X I hso hno hC hl hf hsub hxC (by decide) ⟨_, rfl, rfl, rfl⟩) (F.ks_gaArgs_super _ _)) (fun v s' hv => ?_) fun _ _ z => z.elim
  obtain ⟨rfl, rfl⟩ := hv
  exact wpAny_pure (wpAny_pure hq)
end
section
variable {prog : Program} {w : World} {A : Around} {E : Value → Shared → Prop} {s : Shared} {h₀ : Heap} {L : Addr} {m : Str → Option Value} {news l : List (Addr × Obj)} {e so mw : Addr} {eo : Obj} {od : Option Obj} {K : Frag} {cd : ClassData}
theorem super_init {pl : Sem Bool} {Q : Value × List Value → Shared → Prop} (F : Fr h₀ L s.heap m) (X : K.In h₀) (N : News h₀ L s.heap news) (hso : (so, ks_superObj 50 e 50) ∈ news) (I : InstAt s.heap e eo 50 od) (ho : nsIn K cStatics "thirdparty.any" = some none)
    (hc : clsIn K 50 = some cd) (hm : cd.mro = .ref 50 :: excBm) (hxC : e ≠ 50)
    (h : ∀ q h', Fr h₀ L h' m → News h₀ L h' ((q, wrapObj e) :: news) → (∀ p ∈ news, p.1 < q) → Q (.ref q, []) { s with heap := h', toks := s.toks + 1 }) : wpAny (model prog w) A (getMethod (.ref so) "__init__" pl) Q E s := by
  have X' := X.keeps F.keep
  obtain ⟨hh, g, dr, t, os⟩ := s
  refine super_method X' I (N _ hso).1 (looks_opaque X' ho) hc hm hxC ?_
  obtain ⟨F', N', l'⟩ := ks_newsPush (s := ⟨hh, g, dr, t, os⟩) (o := wrapObj e) F N rfl (Heap.get?_push_at rfl rfl) (fun b o e => Heap.get?_push_of_some _ e)
  exact h _ _ F' N' l'
/-- a call upon the bound __init__, its arguments first -/
def WrapP (mw e : Addr) (h : Heap) : Prop := h.get? mw = some (wrapObj e)
theorem callWith_wrap {M : Model} {env : Env} {x : Expr} {rest : List Expr} {pos : Pos} {first : List Value} {Q : Value → Shared → Prop} (_N : News h₀ L s.heap news) (_q : (mw, wrapObj e) ∈ news)
    (h : wpAny M A (spliced (backTo pos (starEach (x :: rest) env))) (fun vs s₁ => WrapP mw e s₁.heap ∧ wpAny M A (call (.ref mw) (first ++ vs)) Q E s₁) E s)
    (he : starEach (x :: rest) env = (false, eval x env) :: starEach rest env := by rfl) (hplain : (backTo pos (starEach rest env)).any (·.1) = false := by rfl) :
    wpAny M A (callWith pos (.ref mw) first (backTo pos (starEach (x :: rest) env)) []) Q E s := by
  rw [he] at h ⊢
  exact callWith_of (P := WrapP mw e) (by show ((false || (backTo pos (starEach rest env)).any (·.1)) || false) = false; rw [hplain]; rfl) (fun h P => ⟨.machine, .inr (.inl rfl), (Looks.ld (part := none) P).andThen .now⟩) (evalArgs_plain h)
end
end
section
open PySem PySem.W PySem.Spec PySem.Calls PyProof.Rows Builtin Builtin.ObjectAttr
section
variable {prog : Program} {w : World} {A : Around} {E : Value → Shared → Prop} {s : Shared} {h₀ : Heap} {L : Addr} {m : Str → Option Value} {news l : List (Addr × Obj)} {e so mw t0 : Addr} {eo : Obj} {od : Option Obj} {K : Frag} {cd : ClassData}
theorem init_bound {M : Model} {h : Heap} {g : Array GenState} {dr : Drawn} {t : Nat} {os : OsState} {msg : Value} {Q : Unit → Shared → Prop}
    (hC : ∃ nm q bs sn sub ab col dd k0 k1 k2 k3 k5, h.get? 50 = some (excClassObj nm q 50 49 bs excBm true sn sub ab col dd k0 k1 k2 k3 k5 "Exception.__new__")) (he : h.get? e = some eo) (hcls : eo.cls = .ref 50) (hq : Q () ⟨h, g, dr, t, os⟩) :
    wpAny M A (checkBoundCall "Exception.__init__" ⟨[.ref e, msg], []⟩) Q E ⟨h, g, dr, t, os⟩ := by
  have F := PySem.F.excBase_Exception
  obtain ⟨nm, q, bs, sn, sub, ab, col, dd, k0, k1, k2, k3, k5, hC⟩ := hC
  have hcB : (Value.ref 50 :: excBm).contains (.type "Exception") = true := by decide
  unfold checkBoundCall
  simp only [F.initRow, F.initKind]
  rw [if_pos (by decide)]
  repeat (first | (with_reducible refine wpAny_loadPart_at he ?_; rw [hcls]) | with_reducible refine wpAny_loadPart_at hC ?_ | (with_reducible refine wpAny_isSubtype_exc hC ?_; rw [hcB]) | wp_step)
  all_goals exact hq
/-- the bound __init__ of Exception: new args -/
theorem call_wrap {pre post : List (Addr × Obj)} {msg : Value} {dd : Option Addr} {vs : List Value} {sl : Array (Option Value)} {Q : Value → Shared → Prop} (F : Fr h₀ L s.heap m) (N : News h₀ L s.heap (pre ++ (e, ⟨.ref 50, dd, .fields (.ref t0 :: vs).toArray, sl⟩) :: post))
    (X : (hd.heap_39 w.params).In h₀) (h1 : ∀ p ∈ pre, p.1 ≠ e) (h2 : ∀ p ∈ post, p.1 ≠ e) (hq : (mw, wrapObj e) ∈ pre)
    (h : ∀ h' t, Fr h₀ L h' m → News h₀ L h' ((t, tupObj [msg]) :: (pre ++ (e, ⟨.ref 50, dd, .fields (.ref t :: vs).toArray, sl⟩) :: post)) → (∀ p ∈ pre, p.1 ≠ t) → (∀ p ∈ post, p.1 ≠ t) → e ≠ t → Q .none { s with heap := h' }) :
    wpAny (model prog w) A (call (.ref mw) [msg]) Q E s := by
  have FB := PySem.F.excBase_Exception
  have hmw := (N _ (List.mem_append_left _ hq)).1
  have he := (N (e, _) (List.mem_append_right _ (List.mem_cons_self ..))).1
  have lt : ∀ p ∈ pre ++ (e, (⟨.ref 50, dd, .fields (.ref t0 :: vs).toArray, sl⟩ : Obj)) :: post, p.1 ≠ s.heap.objs.size := fun p hp => Nat.ne_of_lt (Heap.lt_size (N p hp).1)
  refine wpAny_call (codeAny_of_tree ?_)
  show wpAny _ _ (callAny (.ref mw) ⟨[msg], []⟩) _ _ _
  unfold callAny
  refine wpAny_bind (wpAny_load hmw ?_)
  dsimp only
  rw [if_pos (by decide)]
  show wpAny _ _ (checkBoundCall "Exception.__init__" ⟨[.ref e, msg], []⟩ >>= _) _ _ _
  obtain ⟨hh, g, dr, t, os⟩ := s
  refine wpAny_bind (init_bound (cls50 (X.keeps F.keep)) he rfl ?_)
  refine wpAny_pure ⟨Code.quiet_builtin _ (by decide +kernel), codeAny_builtin FB.initEntry ?_⟩
  unfold Builtin.«BaseException.__init__»
  dsimp only
  have F1 := F.push { cls := .type "tuple", data := .seq #[msg] }
  have N1 : News h₀ L (hh.push { cls := .type "tuple", data := .seq #[msg] }) ((hh.objs.size, tupObj [msg]) :: (pre ++ (e, ⟨.ref 50, dd, .fields (.ref t0 :: vs).toArray, sl⟩) :: post)) := News.push F N _
  obtain ⟨F2, N2⟩ := news_upd (f := Obj.mapFields (·.setIfInBounds 0 (.ref hh.objs.size))) (pre := (hh.objs.size, tupObj [msg]) :: pre) F1 N1 (fun p hp => by
    rcases List.mem_cons.mp hp with rfl | hp
    · exact (lt _ (List.mem_append_right _ (List.mem_cons_self ..))).symm
    · exact h1 p hp) h2 (o' := ⟨.ref 50, dd, .fields (.ref hh.objs.size :: vs).toArray, sl⟩) (by simp [Obj.mapFields]) rfl
  have he1 : (hh.push { cls := .type "tuple", data := .seq #[msg] }).get? e = some ⟨.ref 50, dd, .fields (.ref t0 :: vs).toArray, sl⟩ := Heap.get?_push_of_some _ he
  have fin := h _ _ F2 N2 (fun p hp => lt p (List.mem_append_left _ hp)) (fun p hp => lt p (List.mem_append_right _ (List.mem_cons_of_mem _ hp))) (lt _ (List.mem_append_right _ (List.mem_cons_self ..)))
  repeat (first | (with_reducible refine wpAny_field he1 rfl (by simp; rfl) ?_) | (with_reducible refine wpAny_setField he1 rfl (by simp) ?_) | (with_reducible refine wpAny_newObj_type ?_ (by size_fits)) | wp_step)
  all_goals exact fin
end
end
section
open PySem PySem.W PySem.Spec PySem.Calls PyProof.Rows
theorem ns_some_of {K : Frag} {h : Heap} {N : Addr} {mg : Str → Option Value} {n : Str} {v : Value} (X : K.In h) (G : h.Ns N mg) (e : nsIn K N n = some (some v)) : mg n = some v := by
  obtain ⟨o, es, ep, ho, hd, _, hf⟩ := G
  unfold nsIn at e
  split at e
  · rename_i c d es' n' sl q
    have := X _ _ q
    rw [ho] at this
    cases this
    cases hd
    split at e
    · rename_i en he
      cases e
      rw [← hf]
      unfold nsFind findBy
      rw [← Array.find?_toList, he]
      rfl
    · split at e <;> cases e
  · cases e
section
variable {prog : Program} {w : World} {A : Around} {E : Value → Shared → Prop} {s : Shared} {h₀ : Heap} {L : Addr} {m : Str → Option Value} {news : List (Addr × Obj)}
abbrev excObj (dd : Option Addr) (t : Addr) : Obj := ⟨.ref 50, dd, .fields #[.ref t, .none, .none, .none, .bool false, .none], #[]⟩
theorem call_exc50_of {K : Frag} {o47 : Obj} {rest : List Value} {Q : Value → Shared → Prop} (X : (hd.heap_39 w.params).In h₀) (XK : K.In h₀) (F : Fr h₀ L s.heap m) (N : News h₀ L s.heap news) (hok : nsOkIn K 49 = true) (hi : nsIn K 49 "__init__" = some (some (.ref 47)))
    (hf : K.lookup 47 = some o47) (hfc : o47.cls = .type "function") (hz : rest.length ≤ sizeLine)
    (h : ∀ h' e t, Fr h₀ L h' m → News h₀ L h' ((e, excObj none t) :: (t, tupObj rest) :: news) → (∀ p ∈ (t, tupObj rest) :: news, p.1 ≠ e) →
      wpAny (model prog w) (A.under (.builtin "type.__call__" ⟨.ref 50 :: rest, []⟩)) (call (.ref 47) (.ref e :: rest)) (fun r s' => r = .none ∧ Q (.ref e) s') E { s with heap := h' }) :
    wpAny (model prog w) A (call (.ref 50) rest) Q E s := by
  have Xs := X.keeps F.keep
  have XKs := XK.keeps F.keep
  obtain ⟨nm, q, bs, sn, sub, ab, col, dd, k0, k1, k2, k3, k5, hC⟩ := cls50 Xs
  have hn : s.heap.Ns 49 (s.heap.nsMap 49) := .of_isNs (isNs_of_in XKs hok)
  have hin := ns_some_of XKs hn hi
  obtain ⟨hh, g, dr, t, os⟩ := s
  refine wpAny_call_exc_init PySem.F.excBase_Exception hC hn hin (XKs _ _ hf) hfc (fun h' e hm => ?_) hz
  obtain ⟨k1, k2, t, he, ht, hT⟩ := hm
  obtain ⟨oL, es, ep, hL, r⟩ := F.ns
  have hno : ∀ b, hh.get? b = none → h₀.get? b = none := fun b hb => by
    cases q : h₀.get? b with
    | none => rfl
    | some o => have := F.keep _ _ q; rw [hb] at this; cases this
  refine h h' e t ⟨⟨oL, es, ep, k1 _ _ hL, r⟩, fun b o q => k1 _ _ (F.keep b o q), F.above⟩ (fun p hp => ?_) (fun p hp => ?_)
  · rcases List.mem_cons.mp hp with rfl | hp
    · exact ⟨he, fun q => (by rw [show e = L from q, hL] at k2; cases k2), hno _ k2⟩
    · rcases List.mem_cons.mp hp with rfl | hp
      · exact ⟨hT, fun q => (by rw [show t = L from q, hL] at ht; cases ht), hno _ ht⟩
      · exact ⟨k1 _ _ (N p hp).1, (N p hp).2⟩
  · rcases List.mem_cons.mp hp with rfl | hp
    · intro q
      rw [show t = e from q, he] at hT
      cases hT
    · intro q
      have := (N p hp).1
      rw [q, k2] at this
      cases this
theorem call_exc50 {rest : List Value} {Q : Value → Shared → Prop} (X : (hd.heap_39 w.params).In h₀) (F : Fr h₀ L s.heap m) (N : News h₀ L s.heap news) (hz : rest.length ≤ sizeLine)
    (h : ∀ h' e t, Fr h₀ L h' m → News h₀ L h' ((e, excObj none t) :: (t, tupObj rest) :: news) → (∀ p ∈ (t, tupObj rest) :: news, p.1 ≠ e) →
      wpAny (model prog w) (A.under (.builtin "type.__call__" ⟨.ref 50 :: rest, []⟩)) (call (.ref 47) (.ref e :: rest)) (fun r s' => r = .none ∧ Q (.ref e) s') E { s with heap := h' }) :
    wpAny (model prog w) A (call (.ref 50) rest) Q E s := by
  k_dflt (refine' call_exc50_of X X F N ?a ?b ?c ?d hz h; (case c => k_is); (case d => exact rfl); (case b => k_is); (case a => kernel_rfl))
end
end
section
open PySem PySem.W PySem.Spec PySem.Calls PyProof.Rows Builtin Builtin.ObjectAttr
section
variable {prog : Program} {w : World} {A₀ A : Around} {s : Shared} {base h₀ : Heap} {L : Addr} {m : Str → Option Value} {env : Env} {news : List (Addr × Obj)} {K : Frag} {p : Program} {loose : List Str} {mean : ExcName → Option Value} {mg mb : Str → Option Value}
    {R : Result → Shared → Prop} {name qual : Str} {params : Arguments} {body : List Stmt} {scope : Scope} {dV kV doc pm cdv ct oc : Value} {an od : Option Addr} {osl : Array (Option Value)} {f : Addr} {args : Args} {binds : List (Str × Value)}
/-- a def with a try, called from the law's own frame -/
theorem code_S0X (B : Below A₀ base [] h₀) (F : Fr h₀ L s.heap m) (X₀ : K.In h₀) (N : News h₀ L s.heap news) (T : Top p loose mean mg mb h₀) (hA : A.frames = some [env]) (hf : env.frame = some L) (hke : env.scope.kind = .function)
    (ho : K.lookup f = some ⟨oc, od, .func (fnOf name qual params body scope dV kV doc pm an cdv ct), osl⟩) (hcd : codeIn K cdv qual = true) (hroom : A.depth < recursionLimit)
    (hbind : BindsTo s (fnOf name qual params body scope dV kV doc pm an cdv ct) args binds) (hloc : ∀ y ∈ binds, scope.names.lookup y.1 = some .local)
    (h : ∀ g L' h₁, Fr h₀ L g m → Fr g L' h₁ (fun y => binds.reverse.lookup y) → News g L' h₁ news → Below A base [env] g → K.In g → Top p loose mean mg mb g → KtsDicts ([env].filterMap (·.frame)) g →
      wpAny (model prog w) (A.deeper (envOf qual scope L' f cdv)) (execs body (envOf qual scope L' f cdv))
        (fun fl s' => LeaveS0 ([env].filterMap (·.frame)) h₀ L m g R (match fl with | .ret v => v | _ => .none) s')
        (fun e s' => wpAny (model prog w) (A.deeper (envOf qual scope L' f cdv)) (leaving (envOf qual scope L' f cdv) e) (fun _ s'' => R (.error e) s'') (fun e' s'' => R (.error e') s'') s')
        { s with heap := h₁, toks := s.toks + binds.length })
    (hco : scope.isCoroutine = false) (hgen : scope.isGenerator = false) (hk : scope.kind = .function)
    (hcell : ∀ x ∈ scope.names, x.2 ≠ .cell) : codeAny (model prog w) A (.call (.ref f) args) R s := by
  have X := X₀.keeps F.keep
  have fm : ∀ b, b ∈ [env].filterMap (·.frame) → b = L := fun b hb => by
    have e1 : [env].filterMap (·.frame) = [L] := by simp [hf]
    rw [e1] at hb
    exact List.mem_singleton.mp hb
  refine codeAny_call_def (fd := fnOf name qual params body scope dV kV doc pm an cdv ct) (body := body) (binds := binds) hroom (X _ _ ho) rfl (T.nolimit.keeps F.keep) (codeRec_of X hcd) rfl hbind hcell hloc (fun h₁ hns hk₁ => ?_) hco hgen hk
  obtain ⟨FG, B₂, st, -⟩ := groundX (R := R) B F N hA hf hke
  obtain ⟨oL, es, ep, hLg, hLd, hLk, hLf⟩ := FG.ns
  have hNs : ∀ (sl : Array (Option Value)) h', h'.get? L = some { oL with slots := sl } → Heap.Ns h' L m := fun sl h' e => ⟨_, es, ep, e, hLd, hLk, hLf⟩
  refine wpAny_mono (h _ s.heap.objs.size h₁ FG ⟨hns, fun b o e => hk₁ b o (of_hideAll _ e), Nat.le_of_eq (hideAll_size _ _)⟩
    (fun p hp => ⟨hk₁ _ _ (N p hp).1, Nat.ne_of_lt (Heap.lt_size (N p hp).1), hideAll_none _ (List.mem_map_of_mem hp)⟩) B₂ (X₀.keeps st) (T.keeps st) (fun b hb => by
      rw [fm b hb]
      exact ⟨oL, es, ep, hLg, hLd⟩)) (fun fl s' hl => ?_) fun _ _ y => y
  obtain ⟨g', L', m', news', T', F', N', k⟩ := hl
  have nL₀ : h₀.get? L = none := kts_self F
  obtain ⟨sl, hs⟩ := T'.up hLg
  refine k ⟨hNs sl _ (F'.keep _ _ hs), fun b o e => F'.keep b o (T'.other b o (st b o e) (fun q => by
    rw [fm b q, nL₀] at e
    cases e)), F.above⟩ fun p hp => ⟨(N' p hp).1, fun q => ?_, ?_⟩
  · have := (N' p hp).2.2; rw [q, hs] at this; cases this
  · cases q : h₀.get? p.1 with
    | none => rfl
    | some o =>
      obtain ⟨sl', hs'⟩ := T'.up (st _ _ q)
      have := (N' p hp).2.2
      rw [hs'] at this
      cases this
end

section
variable {prog : Program} {w : World} {A₀ : Around} {E : Value → Shared → Prop} {s' : Shared} {base g G : Heap} {outer : List Env} {L a e : Addr} {m : Str → Option Value} {name : Str} {scope : Scope} {cd : Value}
  {n : Str} {b₀ : Stmt} {suite : List Stmt} {pos np : Pos} {rest : List ExceptHandler} {Q : Flow → Shared → Prop} {news : List (Addr × Obj)} {KF : Frag} {ki : Int}
  {p : Program} {loose : List Str} {mean : ExcName → Option Value} {mg mb : Str → Option Value} {x : Str}
/-- the handler takes it, with its place -/
theorem caught_own (R : Flown base G (envOf name scope L a cd :: outer) e ki news s'.heap) (F : Fr g L G m) (K : Below A₀ base outer g) (XB : KF.In base) (TB : Top p loose mean mg mb base)
    (D : KtsDicts (outer.filterMap (·.frame)) g)
    (ex : nsIn KF mainGlobals x = some (some (.ref 50))) (q : ktsIn KF 50 "BaseException" = true)
    (k : ∀ h' g' tk d es nn t eo, KtsTurn (outer.filterMap (·.frame)) g g' → Fr g' L h' (fun y => if y = n then some (.ref e) else m y) → News g' L h' ((e, eo) :: (d, dictOf es nn) :: news) → eo.cls = .ref 50 → notCls eo = true → eo.dict = some d → getL "pos" es = some (some (.int ki t)) →
      Below A₀ base outer g' → KF.In g' → Top p loose mean mg mb g' → KtsDicts (outer.filterMap (·.frame)) g' →
      wpAny (model prog w) ((A₀.deeper (envOf name scope L a cd)).mark (some (.ref e))) (execs (b₀ :: suite) (envOf name scope L a cd))
        (fun f s₄ => wpAny (model prog w) (A₀.deeper (envOf name scope L a cd)) (do bindName (envOf name scope L a cd) n .none; unbindBehindTheSuite (envOf name scope L a cd) n pos) (fun _ s₅ => Q f s₅) E s₄)
        (AsSuiteRaised (model prog w) ((A₀.deeper (envOf name scope L a cd)).mark (some (.ref e))) (envOf name scope L a cd) n pos (notedBy (model prog w) ((A₀.deeper (envOf name scope L a cd)).mark (some (.ref e))) (envOf name scope L a cd) (cameBackBy (model prog w) (A₀.deeper (envOf name scope L a cd)) (envOf name scope L a cd) E)))
        { s' with heap := h', toks := tk })
    (hk : scope.kind = .function := by rfl) (hlo : (envOf name scope L a cd).kindOf n = some .local := by rfl) (hx : (envOf name scope L a cd).kindOf x = some .globalImplicit := by rfl) (hd : (x == ("__debug__" : Str)) = false := by decide) :
    wpAny (model prog w) (A₀.deeper (envOf name scope L a cd)) (noteFrame (.ref e) (envOf name scope L a cd))
      (fun _ s₂ => wpAny (model prog w) (A₀.deeper (envOf name scope L a cd)) (setFlight (.ref e) none) (fun _ s₃ =>
        wpAny (model prog w) (A₀.deeper (envOf name scope L a cd)) (handleBy (.ref e) (envOf name scope L a cd) (.ExceptHandler (some (.Name x np)) (some n) (b₀ :: suite) pos :: rest)) Q E s₃) E s₂) E s' := by
  obtain ⟨d, es, nn, t, ⟨B, a0, hB, hBG, hl, hfl⟩, hsm, hdict, hde, hpos⟩ := R
  have hL : B.get? L = none := by
    obtain ⟨_, ⟨L', _, hf, hn', _⟩, _⟩ := hfl.2.2.1
    obtain rfl : L = L' := Option.some.inj hf
    exact hn'
  refine wpAny_mono ((keepsD_noteFrame _ _).any (M := model prog w) (E := E) hdict (wpAny_looks_onW (Q := fun _ s₂ => ∃ h₄, s₂ = { s' with heap := h₄ } ∧ Heap.HeldW B (envOf name scope L a cd :: outer) e (.ref 50) a0 L h₄ ∧ s'.heap.UpToSlots h₄) (Around.frames_deeper K.stack) rfl hfl fun h₄ x1 x2 => ⟨h₄, rfl, x1, x2⟩)) (fun _ s₂ r => ?_) fun _ _ y => y
  obtain ⟨⟨h₄, rfl, hheld₄, hsm₄⟩, hdict₄⟩ := r
  refine wpAny_mono ((keepsD_setFlight _ _).any (M := model prog w) (E := E) hdict₄ (wpAny_landsW (Q := fun _ s₂ => ∃ h₅, s₂ = { s' with heap := h₅ } ∧ Heap.FlyingW B (envOf name scope L a cd :: outer) e (.ref 50) a0 h₅ ∧ h₄.UpToSlots h₅) hheld₄ fun h₅ x1 x2 => ⟨h₅, rfl, x1, x2⟩)) (fun _ s₃ r => ?_) fun _ _ y => y
  obtain ⟨⟨h₅, rfl, hheld, hsm₅'⟩, hdict₅⟩ := r
  have hsm₅ := hsm₄.trans hsm₅'
  obtain ⟨g₅, T₅, F₅, K₅⟩ := kts_ground K F hBG hheld.1 (hsm.trans hsm₅)
  have X₅ : KF.In g₅ := XB.keeps K₅.stays
  have P₅ : TopRead p loose mg mb g₅ := topRead_of (TB.keeps K₅.stays)
  obtain ⟨ob, hob, hobc⟩ := hheld.there
  obtain ⟨nm, q', N, bs, bm, hdct, sn, sub, ab, col, dd, k0, k1, k2, k3, k5, newId, hC, hbase, hbT⟩ := kts_cls X₅ q
  have hC₅ := F₅.keep _ _ hC
  refine wpAny_handleBy_cons (codeAny_handlers_test (name_K F₅ X₅ P₅ ex ?_ hk hx hd)) (by intro q; cases q)
  refine wpAny_excMatches_sub_self hC₅ hob hobc hbase (codeAny_handlers_suite_as ?_)
  refine wpAny_mono ((keepsD_setFlight _ _).any (M := model prog w) hdict₅ (lands_againW (Q := fun _ s₂ => ∃ h₆, s₂ = { s' with heap := h₆ } ∧ Heap.FlyingW B (envOf name scope L a cd :: outer) e (.ref 50) a0 h₆ ∧ h₅.UpToSlots h₆) hheld fun h₆ x1 x2 => ⟨h₆, rfl, x1, x2⟩)) (fun _ s₃ r => ?_) fun _ _ y => y
  obtain ⟨⟨h₆, rfl, hfl₆, hsm₆⟩, hdict₆⟩ := r
  obtain ⟨g₆, T₆, F₆, K₆⟩ := kts_ground K F hBG hfl₆.1 ((hsm.trans hsm₅).trans hsm₆)
  obtain ⟨oe, ws, hoe, hoec, hoed, hoe0⟩ := hfl₆.first
  obtain ⟨oe', hoe', hoed'⟩ := hdict₆
  obtain rfl : oe = oe' := Option.some.inj (hoe.symm.trans hoe')
  have ne₆ : g₆.get? e = none := T₆.none_ _ (kts_fresh F hBG hfl₆.2.1 fun o ho m => by
    obtain ⟨_, o', ho', hd⟩ := K.frames.mem m
    rw [ho] at ho'
    cases ho'
    obtain ⟨sl, hs⟩ := ((hsm.trans hsm₅).trans hsm₆) _ _ (F.keep _ _ ho) hd
    rw [hoe] at hs
    cases hs
    exact hd _ hoed)
  have N₆ := News.more F₆ News.nil hoe (fun es n q => by rw [hoed] at q; cases q) ne₆
  have Nl : News g₆ L h₆ ((d, dictOf es nn) :: news) := fun q hq => ⟨hfl₆.1 _ _ (hl q hq).1, (fun z => by have := (hl q hq).1; rw [z, hL] at this; cases this), T₆.none_ _ (kts_none F.keep (hl q hq).2.1)⟩
  have X₆ : KF.In g₆ := XB.keeps K₆.stays
  have P₆ : Top p loose mean mg mb g₆ := TB.keeps K₆.stays
  have D₆ : KtsDicts (outer.filterMap (·.frame)) g₆ := D.turn T₆
  refine stN F₆ (news := _ ++ ((d, dictOf es nn) :: news)) (fun q hq => (List.mem_append.mp hq).elim (N₆ q) (Nl q)) (fun h₇ F₇ N₇ => ?_) hk hlo
  refine k h₇ g₆ _ d es nn t oe T₆ F₇ (fun q hq => N₇ q ?_) hoec (by unfold notCls; rw [hoed]) hoed' hpos K₆ X₆ P₆ D₆
  rcases List.mem_cons.mp hq with rfl | hq
  · exact List.mem_append_left _ (List.mem_cons_self ..)
  · exact List.mem_append_right _ hq
end
end
section
open PySem PySem.W PySem.Spec PySem.Calls PyProof.Rows Builtin Builtin.ObjectAttr
section
variable {prog : Program} {w : World} {A : Around} {E : Value → Shared → Prop} {h : Heap} {g : Array GenState} {dr : Drawn} {t : Nat} {os : OsState} {e : Addr} {eo : Obj} {od : Option Obj} {K : Frag} {cd : ClassData} {name : Str} {v : Value}
theorem exc_get_run {tk : Tok} {Q : PySem.Fin → Shared → Prop} (I : InstAt h e eo 50 od) (hfind : Looks (model prog w) h (find (.ref e) (.ref 50) name) (.value v)) (hq : Q (.done (.ret v)) ⟨h, g, dr, t, os⟩) :
    wpAny (model prog w) A (Builtin.«object.__getattribute__» ⟨[.ref e, .str name tk], []⟩) Q E ⟨h, g, dr, t, os⟩ := by
  have hx := I.at_
  have hxc := I.cls
  unfold Builtin.«object.__getattribute__»
  repeat (first | (with_reducible refine Looks.at hfind ?_) | (with_reducible refine wpAny_loadPart_at hx ?_; rw [hxc]) | wp_step)
  all_goals exact hq
theorem exc_ga_check {M : Model} {nameV : Value} {Q : Unit → Shared → Prop} (I : InstAt h e eo 50 od) (hsub : Looks M h (isSubtype (.ref 50) (.type "BaseException")) true) (hq : Q () ⟨h, g, dr, t, os⟩) :
    wpAny M A (checkBuiltinCall "BaseException.__getattribute__" ⟨[.ref e, nameV], []⟩) Q E ⟨h, g, dr, t, os⟩ := by
  have hx := I.at_
  have hxc := I.cls
  have hk : builtinKind "BaseException.__getattribute__" = some .slot := by decide +kernel
  have hsplit : splitId "BaseException.__getattribute__" = some ("BaseException", "__getattribute__") := by decide +kernel
  have ha := F.args_bexc_ga (.ref e) nameV
  simp only [checkBuiltinCall, hk, hsplit]
  refine wpAny_bind ?_
  · unfold isInstance
    repeat (first | (with_reducible refine wpAny_loadPart_at hx ?_; rw [hxc]) | (with_reducible refine Looks.at hsub ?_) | wp_step)
    exact hq
theorem exc_attr {expr : Bool} {Q : Value → Shared → Prop} (I : InstAt h e eo 50 od) (hfind : Looks (model prog w) h (find (.ref e) (.ref 50) name) (.value v)) (hsub : Looks (model prog w) h (isSubtype (.ref 50) (.type "BaseException")) true)
    (hga : Looks (model prog w) h (typeLookup (.ref 50) "__getattribute__") (some (.builtin "BaseException.__getattribute__"))) (hgh : Looks (model prog w) h (typeLookup (.ref 50) "__getattr__") none) (hv : handedOut v = pure v) (hq : Q v ⟨h, g, dr, t + 1, os⟩) :
    wpAny (model prog w) A (getAttr (.ref e) name expr) Q E ⟨h, g, dr, t, os⟩ := by
  have FB := F.attrBase_Exception
  have hx := I.at_
  have hxc := I.cls
  have f3 := FB.ga.bind (.ref e)
  have hx0 : (expr && onTheHeap (Value.builtin "BaseException.__getattribute__")) = false := by cases expr <;> rfl
  have hx2 : (Value.builtin "BaseException.__getattribute__" == Value.builtin "object.__getattribute__") = false := by decide +kernel
  have hx1 : (onTheHeap (Value.ref 50) && Value.builtin "BaseException.__getattribute__" == Value.builtin "object.__getattribute__") = false := by rw [hx2]; rfl
  have call : ∀ (R : Result → Shared → Prop) (A : Around) (tk : Tok) (t : Nat), R (.ok (.ret v)) ⟨h, g, dr, t, os⟩ → codeAny (model prog w) A (.call (.builtin "BaseException.__getattribute__") ⟨[.ref e, .str name tk], []⟩) R ⟨h, g, dr, t, os⟩ := fun R A tk t hR =>
    codeAny_call_builtin FB.ga.plain F.entry_bexc_ga (exc_ga_check I hsub (exc_get_run I hfind hR))
  unfold getAttr getAttrBy
  repeat (any_goals (first | assumption | (with_reducible refine wpAny_loadPart_at hx ?_; rw [hxc]) | (with_reducible refine Looks.at hga ?_) | (with_reducible refine Looks.at hgh ?_) | wp_step))
  refine call _ _ _ _ ?_
  repeat (any_goals (first | assumption | wp_step))
end
section
variable {prog : Program} {w : World} {A : Around} {E : Value → Shared → Prop} {s : Shared} {h₀ : Heap} {L : Addr} {m : Str → Option Value} {news : List (Addr × Obj)} {e d : Addr} {eo : Obj} {es : List DictEntry} {n : Nat} {K : Frag} {name : Str} {v : Value}
theorem get_exc {expr : Bool} {Q : Value → Shared → Prop} (F : Fr h₀ L s.heap m) (X : K.In h₀) (N : News h₀ L s.heap news) (he : (e, eo) ∈ news) (hd : (d, dictOf es n) ∈ news) (hc : eo.cls = .ref 50) (hn : notCls eo = true) (hdd : eo.dict = some d)
    (hl : getL name es = some (some v)) (hv : handedOut v = pure v) (hh : hasDictIn K 50 = true) (ha : findIn K (.ref 50) name = some none) (hsub : mroIn K 50 (.type "BaseException") = some true)
    (hga : findIn K (.ref 50) "__getattribute__" = some (some (.builtin "BaseException.__getattribute__"))) (hgh : findIn K (.ref 50) "__getattr__" = some none)
    (h : Q v { s with toks := s.toks + 1 }) : wpAny (model prog w) A (getAttr (.ref e) name expr) Q E s := by
  have X' := X.keeps F.keep
  have I : InstAt s.heap e eo 50 (some (dictOf es n)) := ⟨(N _ he).1, hc, hn, by rw [hdd]; exact (N _ hd).1⟩
  obtain ⟨hh', g, dr, t, os⟩ := s
  exact exc_attr I (looks_find X' I (findObj_own hh ha (by rfl) hl)) (looks_mroIn X' hsub) (looks_findIn X' hga) (looks_findIn X' hgh) hv h
end
end
section
open PySem PySem.W PySem.Spec PySem.Calls PyProof.Rows
theorem filterMap_run (a : Array Nat) : ∀ (k i : Nat), i + k ≤ a.size → ((List.range k).map (fun d => i + d)).filterMap (a[·]?) = (a.toList.drop i).take k := by
  intro k
  induction k with
  | zero => intro i _; simp
  | succ k ih =>
    intro i h
    rw [List.range_succ, List.map_append, List.filterMap_append, ih i (by omega)]
    have e1 : a[i + k]? = some a[i + k] := Array.getElem?_eq_getElem (by omega)
    simp only [List.map_cons, List.map_nil, List.filterMap_cons, e1, List.filterMap_nil]
    rw [List.take_add_one]
    congr 1
    rw [List.getElem?_drop]
    have : a.toList[i + k]? = some a[i + k] := by rw [Array.getElem?_toList]; exact e1
    rw [this]
    rfl
theorem sliceRange_nat {i j : Nat} (h : i ≤ j) : sliceRange (i : Int) (j : Int) 1 = (List.range (j - i)).map (fun d => i + d) := by
  unfold sliceRange
  rw [if_pos (by decide)]
  dsimp only
  have e : (if (i : Int) < j then ((j : Int) - i + 1 - 1) / 1 else 0).toNat = j - i := by
    split
    · rw [Int.ediv_one]; omega
    · omega
  rw [e]
  apply List.map_congr_left
  intro d _
  omega
theorem slice_of {x : Str} {l u : Option Int} {i j : Nat} (h1 : i ≤ j) (h2 : j ≤ x.length) (h : Builtin.Str.strSliceIndices l u 1 x.length = sliceRange (i : Int) (j : Int) 1) : Txt.slice x l u = ⟨x.cps.extract i j⟩ := by
  have hs : x.cps.size = x.length := rfl
  have e : (⟨x.cps.extract i j⟩ : Str) = ⟨((x.cps.toList.drop i).take (j - i)).toArray⟩ := by
    congr 1
    apply Array.toList_inj.mp
    simp
  unfold Txt.slice
  rw [h, sliceRange_nat h1, e]
  split
  · rename_i hh
    simp at hh
    have hi : i = 0 ∧ j = x.length := by omega
    obtain ⟨rfl, rfl⟩ := hi
    obtain ⟨c⟩ := x
    simp
    rw [List.take_of_length_le (by simp; exact Nat.le_of_eq hs)]
  · rw [filterMap_run _ _ _ (by omega)]
theorem slice_nat {x : Str} {i j : Nat} (h1 : i ≤ j) (h2 : j ≤ x.length) : Txt.slice x (some (i : Int)) (some (j : Int)) = ⟨x.cps.extract i j⟩ := by
  refine slice_of h1 h2 ?_
  unfold Builtin.Str.strSliceIndices
  simp only [show (1 : Int) > 0 by decide, if_true]
  rw [if_neg (by omega), if_neg (by omega)]
  congr 1 <;> omega
theorem slice_to {x : Str} {j : Nat} (h2 : j ≤ x.length) : Txt.slice x none (some (j : Int)) = ⟨x.cps.extract 0 j⟩ := by
  refine slice_of (Nat.zero_le _) h2 ?_
  unfold Builtin.Str.strSliceIndices
  simp only [show (1 : Int) > 0 by decide, if_true]
  rw [if_neg (by omega)]
  congr 1
  omega
theorem slice_in {x : Str} (h : 2 ≤ x.length) : Txt.slice x (some 1) (some (-1)) = ⟨x.cps.extract 1 (x.length - 1)⟩ := by
  refine slice_of (by omega) (by omega) ?_
  unfold Builtin.Str.strSliceIndices
  simp only [show (1 : Int) > 0 by decide, if_true]
  rw [if_neg (by omega), if_pos (by omega)]
  congr 1 <;> omega
end
section
open PySem PySem.W PySem.Spec PySem.Calls PyProof.Rows
open PySem.Builtin.Re
/-- the strs that a list holds -/
def strV : Value → Option Str
  | .str x _ => some x
  | _ => none
def StrsAre (its : Array Value) (ws : List Str) : Prop := its.toList.map strV = ws.map some
theorem StrsAre.nil : StrsAre #[] [] := rfl
theorem StrsAre.push {its : Array Value} {ws : List Str} (h : StrsAre its ws) (x : Str) (t : Tok) : StrsAre (its.push (.str x t)) (ws ++ [x]) := by
  unfold StrsAre at h ⊢
  rw [Array.toList_push, List.map_append, List.map_append, h]
  rfl
theorem StrsAre.size {its : Array Value} {ws : List Str} (h : StrsAre its ws) : its.size = ws.length := by
  have := congrArg List.length h
  simpa using this
theorem strs_of : ∀ {l : List Value} {ws : List Str}, l.map strV = ws.map some → ∃ ps : List (Str × Tok), l = strValues ps ∧ ps.map (·.1) = ws
  | [], [], _ => ⟨[], rfl, rfl⟩
  | [], _ :: _, h => by cases h
  | v :: l, [], h => by cases h
  | v :: l, x :: ws, h => by
    simp only [List.map_cons, List.cons.injEq] at h
    obtain ⟨ps, e1, e2⟩ := strs_of h.2
    cases v with
    | str y t =>
      have : y = x := Option.some.inj h.1
      subst this
      exact ⟨(y, t) :: ps, by rw [e1]; rfl, by simp [e2]⟩
    | _ => cases h.1
theorem StrsAre.vals {its : Array Value} {ws : List Str} (h : StrsAre its ws) : ∃ ps : List (Str × Tok), its = (strValues ps).toArray ∧ ps.map (·.1) = ws := by
  obtain ⟨ps, e1, e2⟩ := strs_of h
  exact ⟨ps, by rw [← e1], e2⟩

/-- the strs of a join, no sign between them -/
def catS : List Str → Str
  | [] => ⟨#[]⟩
  | x :: r => ⟨x.cps ++ (catS r).cps⟩
section
variable {prog : Program} {w : World} {A : Around} {E : Value → Shared → Prop} {s : Shared} {h₀ : Heap} {L : Addr} {m : Str → Option Value} {news : List (Addr × Obj)}

theorem wp_newMatch1 {P : Addr} {x : Str} {t : Tok} {lim st e a b : Nat} {mm : Sre.M} {Q : Value → Shared → Prop} (F : Fr h₀ L s.heap m) (N : News h₀ L s.heap news) (e1 : mm.start = st) (e2 : mm.handed = e) (e3 : mm.marks = #[some a, some b]) (e4 : mm.lastmark = 1) (e5 : mm.lastindex = 1) (hab : a ≤ b)
    (h : ∀ h' M T, Fr h₀ L h' m → News h₀ L h' ((M, matchObj x t P 0 lim 1 T) :: (T, tupObj [rawInt st, rawInt e, rawInt a, rawInt b]) :: news) → (∀ p ∈ news, p.1 < T) → T < M → Q (.ref M) { s with heap := h' }) :
    wpAny (model prog w) A (reNewMatch (.ref P) (.str x t) 1 0 lim mm) Q E s := by
  unfold reNewMatch
  rw [e1, e2, e3, e4, e5]
  show wpAny _ _ (if ((decide ((1 : Int) ≤ 1) && decide (b < a)) || false) = true then _ else (newTuple [rawInt st, rawInt e, rawInt a, rawInt b] >>= fun T => newFields "re.Match" [.str x t, .ref P, rawInt ((0 : Nat) : Int), rawInt lim, rawInt 1, T])) _ _ _
  rw [if_neg (by simp; omega)]
  refine (wpAny_bind (newTuple_N F N (fun h₁ F₁ N₁ => ?_) (by simp [sizeLine])))
  refine wpAny_newObj_type ?_ (by show (6 : Nat) ≤ sizeLine + 2; decide)
  have lt : ∀ p ∈ news, p.1 < s.heap.objs.size := fun p hp => Heap.lt_size (N p hp).1
  refine h _ _ s.heap.objs.size (F₁.push _) (News.push F₁ N₁ _) lt ?_
  exact Heap.lt_size (N₁ _ (List.Mem.head _)).1
theorem call_group1 {x : Str} {t u : Tok} {P M T : Addr} {i len : Nat} {li : Int} {b e a c : Nat} {Q : Value → Shared → Prop} (N : News h₀ L s.heap news) (hm : (M, matchObj x t P i len li T) ∈ news) (ht : (T, tupObj [rawInt b, rawInt e, rawInt a, rawInt c]) ∈ news)
    (hx : x.length ≤ 1000000) (h : ∀ t, Q (.str ⟨x.cps.extract a c⟩ t) { s with toks := s.toks + 1 }) : wpAny (model prog w) A (call (.builtin "re.Match.group") [.ref M, .int 1 u]) Q E s := by
  refine wpAny_call_entry slot_group ⟨_, N.get hm, rfl⟩ entry_group ?_ (args_group2 _ _)
  unfold Builtin.«re.Match.group»
  refine wpAny_bind ?_
  rw [show noKeywords "Match.group" ⟨[Value.ref M, .int 1 u], []⟩ = pure () from rfl]
  refine wpAny_pure ?_
  refine wpAny_bind (wp_found N hm ht ?_)
  dsimp only
  refine wpAny_bind ?_
  refine wpAny_bind ?_
  show wpAny _ _ (pure (some (1 : Int))) _ _ _
  refine wpAny_pure ?_
  simp only [Option.isSome_some, if_true]
  refine wpAny_bind ?_
  show wpAny _ _ (pure (1 : Int)) _ _ _
  refine wpAny_pure ?_
  rw [if_neg (by simp)]
  refine wpAny_pure (wpAny_bind ?_)
  unfold reGroupText
  have e1 : (([rawInt b, rawInt e, rawInt a, rawInt c] : List Value).toArray.map reRawOf).getD (2 * Int.toNat 1) (-1) = a := by simp [Array.getD, reRawOf, rawInt]
  have e2 : (([rawInt b, rawInt e, rawInt a, rawInt c] : List Value).toArray.map reRawOf).getD (2 * Int.toNat 1 + 1) (-1) = c := by simp [Array.getD, reRawOf, rawInt]
  dsimp only
  rw [e1, e2]
  rw [if_neg (by show ¬ ((decide ((a : Int) < 0) || decide ((c : Int) < 0)) = true); simp)]
  refine wpAny_bind ?_
  show wpAny _ _ (pure (x.cps, 0)) _ _ _
  refine wpAny_pure ?_
  show wpAny _ _ (mkStr ⟨x.cps.extract ((a : Int)).toNat ((c : Int)).toNat⟩) _ _ _
  refine wpAny_mkStr ?_ ?_
  · exact wpAny_pure ⟨_, rfl, h _⟩
  · show (x.cps.extract _ _).size ≤ sizeLine
    rw [Array.size_extract, sizeLine_eq]
    have : x.cps.size = x.length := rfl
    omega
end
/-- a search of a pattern with one group: where a match starts, where its group starts, where both end -/
structure Finds (code text : Array Nat) (find : Nat → Option (Nat × Nat × Nat)) : Prop where
  ok : ∀ pos, pos ≤ text.size → match find pos with
    | some (st, a, e) => pos ≤ st ∧ st < e ∧ a ≤ e ∧ e ≤ text.size ∧ Match 1000000 (Sre.forSearch code text 1 pos text.size false) st e #[some a, some e] 1 1
    | none => NoMatch 1000000 (Sre.forSearch code text 1 pos text.size false)
/-- the pieces of a substitution, from a place on -/
def subGo (find : Nat → Option (Nat × Nat × Nat)) (cb : Str → Str) (text : Array Nat) : Nat → Nat → List Str
  | 0, _ => []
  | f + 1, d => match find d with
    | some (st, a, e) => (if d < st then [⟨text.extract d st⟩] else []) ++ [cb ⟨text.extract a e⟩] ++ subGo find cb text f e
    | none => if d < text.size then [⟨text.extract d text.size⟩] else []
section
variable {prog : Program} {w : World} {E : Value → Shared → Prop} {h₀ : Heap} {L : Addr} {m : Str → Option Value} {news : List (Addr × Obj)}
theorem wp_wholeTarget {A : Around} {s : Shared} {P : Addr} {code : Array Nat} {x : Str} {t : Tok} {g : Nat} {Q : ReTarget → Shared → Prop} (I : IsPat s.heap P code g)
    (h : Q { pattern := .ref P, string := .str x t, code := code, text := x.cps, kind := 0, groups := g, pos := 0, lim := x.length } s) :
    wpAny (model prog w) A (reWholeTarget (.ref P) (.str x t)) Q E s := by
  obtain ⟨o, pat, fl, tf, ct, oc, items, n, ho, hc, hdd, hd, hct, hoc, hcode⟩ := I.obj
  unfold reWholeTarget
  refine wpAny_bind (wp_fields ho hd (wpAny_bind ?_))
  show wpAny _ _ (pure (x.cps, 0)) _ _ _
  refine wpAny_pure ?_
  show wpAny _ _ (reNoCollectionInside _ _ >>= _) _ _ _
  refine wpAny_bind (wpAny_pure ?_)
  refine wpAny_bind (wp_rawItems hct hoc (wpAny_pure ?_))
  rw [hcode]
  exact h
end
end
section
open PySem PySem.W PySem.Spec PySem.Calls PyProof.Rows
open PySem.Builtin.Re
theorem plain_subLoop : plainId "re.Pattern.sub.loop" = true := by decide +kernel
section
variable {prog : Program} {w : World} {h₀ : Heap} {L : Addr} {m : Str → Option Value} {news : List (Addr × Obj)}
theorem push_led {A : Around} {E : Value → Shared → Prop} {s : Shared} {lP : Addr} {its : Array Value} {k : Nat} {pre : List (Addr × Obj)} {v : Value} {Q : Unit → Shared → Prop} (F : Fr h₀ L s.heap m) (N : News h₀ L s.heap (pre ++ (lP, listOf its k) :: news)) (h1 : ∀ p ∈ pre, p.1 ≠ lP) (h2 : ∀ p ∈ news, p.1 ≠ lP) (hz : its.size ≤ 1000000)
    (h : ∀ h', Fr h₀ L h' m → News h₀ L h' (pre ++ (lP, listOf (its.push v) (k + 1)) :: news) → Q () { s with heap := h' }) : wpAny (model prog w) A (updateSeq lP (·.push v)) Q E s := by
  obtain ⟨F', N'⟩ := news_upd (f := Obj.mapSeq (·.push v)) F N h1 h2 (o' := listOf (its.push v) (k + 1)) (by simp [Obj.mapSeq]) rfl
  refine wpAny_updateSeq (N (lP, listOf its k) (by simp)).1 rfl (h _ F' N') (by rw [sizeLine_eq]; omega) (by rw [Array.size_push, sizeLine_eq]; omega)
theorem wp_slice {A : Around} {E : Value → Shared → Prop} {s : Shared} {x : Str} {a b : Nat} {Q : Value → Shared → Prop} (hx : x.length ≤ 1000000) (h : ∀ t, Q (.str ⟨x.cps.extract a b⟩ t) { s with toks := s.toks + 1 }) :
    wpAny (model prog w) A (reSlice x.cps 0 a b) Q E s := by
  show wpAny _ _ (mkStr ⟨x.cps.extract a b⟩) _ _ _
  refine wpAny_mkStr (h _) ?_
  show (x.cps.extract _ _).size ≤ sizeLine
  rw [Array.size_extract, sizeLine_eq]
  have : x.cps.size = x.length := rfl
  omega
theorem sub_loop {P f lP : Addr} {code : Array Nat} {find : Nat → Option (Nat × Nat × Nat)} {cb : Str → Str} {x : Str} {t : Tok} {A : Around} {R : Result → Shared → Prop} (I : IsPat h₀ P code 1) (FD : Finds code x.cps find) (hx : x.length ≤ 100) (hcbl : ∀ y, (cb y).length ≤ y.length + 10)
    (hne : ∀ p ∈ news, p.1 ≠ lP) (s₀ : Shared)
    (hcb : ∀ (h : Heap) (tk : Nat) (M T : Addr) (i st e a : Nat) (its : Array Value) (k : Nat) (Q E : Value → Shared → Prop), e ≤ x.length → a ≤ e → Fr h₀ L h m → News h₀ L h ((M, matchObj x t P 0 x.length 1 T) :: (T, tupObj [rawInt st, rawInt e, rawInt a, rawInt e]) :: (lP, listOf its k) :: news) → (∀ p ∈ (lP, listOf its k) :: news, p.1 < T) → T < M →
      (∀ h' tk' tok, Fr h₀ L h' m → News h₀ L h' ((lP, listOf its k) :: news) → Q (.str (cb ⟨x.cps.extract a e⟩) tok) { s₀ with heap := h', toks := tk' }) →
        wpAny (model prog w) A.in1 (call (.ref f) [.ref M]) Q E { s₀ with heap := h, toks := tk }) :
    ∀ (fuel d n k : Nat) (its : Array Value) (ws : List Str) (h : Heap) (tk : Nat), x.length < fuel + d → d ≤ x.length → ws.length ≤ 2 * d → (∀ y ∈ ws, y.length ≤ 200) → StrsAre its ws → Fr h₀ L h m → News h₀ L h ((lP, listOf its k) :: news) →
      (∀ h' tk' tok, Fr h₀ L h' m → News h₀ L h' news → R (.ok (.ret (.str (Txt.join ⟨#[]⟩ (ws ++ subGo find cb x.cps fuel d)) tok))) { s₀ with heap := h', toks := tk' }) →
        codeAny (model prog w) A (.builtin "re.Pattern.sub.loop" ⟨[.ref P, .str x t, .ref f, rawInt 1, rawInt 0, rawInt n, rawInt d, rawInt d, .bool false, .ref lP, .bool false], []⟩) R { s₀ with heap := h, toks := tk } := by
  intro fuel
  induction fuel with
  | zero => intro d n k its ws h tk h1 h2; omega
  | succ fuel ih =>
    intro d n k its ws h tk hd1 hd2 hw hy S F N fin
    have hxs : x.cps.size = x.length := rfl
    have hsz := S.size
    refine codeAny_builtin entry_subLoop ?_
    rw [Around.under_plainId plain_subLoop]
    unfold Builtin.«re.Pattern.sub.loop»
    dsimp only [rawInt]
    refine wpAny_bind (wp_wholeTarget (s := { s₀ with heap := h, toks := tk }) (I.keeps F.keep) ?_)
    dsimp only
    rw [if_neg (by decide)]
    have hnext : ∀ (Q' : Option Sre.M → Shared → Prop), (∀ st a e, find d = some (st, a, e) → ∀ mm : Sre.M, mm.start = st → mm.handed = e → mm.marks = #[some a, some e] → mm.lastmark = 1 → mm.lastindex = 1 → d ≤ st → st < e → a ≤ e → e ≤ x.length → Q' (some mm) { s₀ with heap := h, toks := tk }) → (find d = none → Q' none { s₀ with heap := h, toks := tk }) →
        wpAny (model prog w) A.in1 (if ((0 : Int) != 0 && decide ((n : Int) ≥ 0)) = true then pure none else reNextFound { pattern := .ref P, string := .str x t, code := code, text := x.cps, kind := 0, groups := 1, pos := 0, lim := x.length } (d : Int).toNat false) Q' (fun e s' => R (.error e) s') { s₀ with heap := h, toks := tk } := by
      intro Q' hy hn
      rw [if_neg (by simp)]
      unfold reNextFound
      have hf := FD.ok d (by omega)
      cases q : find d with
      | none =>
        rw [q] at hf
        exact wp_toEnd_none hf (Nat.le_refl _) (hn q)
      | some v =>
        obtain ⟨st, a, e⟩ := v
        rw [q] at hf
        obtain ⟨f1, f2, f3, f4, f5⟩ := hf
        exact wp_toEnd_match f5 (Nat.le_refl _) fun mm e1 e2 e3 e4 e5 => hy st a e q mm e1 e2 e3 e4 e5 f1 f2 f3 (by omega)
    refine wpAny_bind (hnext _ (fun st a e hfind mm e1 e2 e3 e4 e5 g1 g2 g3 g4 => ?_) (fun hfind => ?_))
    · dsimp only
      have hsub : subGo find cb x.cps (fuel + 1) d = (if d < st then [(⟨x.cps.extract d st⟩ : Str)] else []) ++ [cb ⟨x.cps.extract a e⟩] ++ subGo find cb x.cps fuel e := by
        conv => lhs; unfold subGo
        rw [hfind]
      have hcl := hcbl ⟨x.cps.extract a e⟩
      have hel : (⟨x.cps.extract a e⟩ : Str).length ≤ x.length := by
        show (x.cps.extract a e).size ≤ x.length
        rw [Array.size_extract]; omega
      have after : ∀ (its1 : Array Value) (k1 : Nat) (ws1 : List Str) (h1 : Heap) (tk1 : Nat), StrsAre its1 ws1 → ws1.length ≤ 2 * d + 1 → (∀ y ∈ ws1, y.length ≤ 200) → Fr h₀ L h1 m → News h₀ L h1 ((lP, listOf its1 k1) :: news) →
          ws1 ++ [cb ⟨x.cps.extract a e⟩] ++ subGo find cb x.cps fuel e = ws ++ subGo find cb x.cps (fuel + 1) d →
          wpAny (model prog w) A.in1 (reNewMatch (.ref P) (.str x t) 1 0 x.length mm >>= fun found => holding [found] (call (.ref f) [found]) >>= fun item =>
            if (item != .none) = true then (updateSeq lP (·.push item) >>= fun _ => again (.builtin "re.Pattern.sub.loop" ⟨[.ref P, .str x t, .ref f, .int 1 0, .int 0 0, .int ((n : Int) + 1) 0, .int mm.handed 0, .int mm.handed 0, .bool (mm.handed == mm.start), .ref lP, .bool false], []⟩))
            else again (.builtin "re.Pattern.sub.loop" ⟨[.ref P, .str x t, .ref f, .int 1 0, .int 0 0, .int ((n : Int) + 1) 0, .int mm.handed 0, .int mm.handed 0, .bool (mm.handed == mm.start), .ref lP, .bool false], []⟩))
            (fun fin s' => match fin with | .done f => R (.ok f) s' | .again c' => c'.quiet = true ∧ codeAny (model prog w) A c' R s') (fun e s' => R (.error e) s') { s₀ with heap := h1, toks := tk1 } := by
        intro its1 k1 ws1 h1 tk1 S1 l1 y1 F1 N1 q1
        have hsz1 := S1.size
        refine wpAny_bind (wp_newMatch1 (s := { s₀ with heap := h1, toks := tk1 }) F1 N1 e1 e2 e3 e4 e5 g3 fun h2 M T F2 N2 lt1 lt2 => ?_)
        refine wpAny_bind (wpAny_holding (hcb h2 tk1 M T 0 st e a its1 k1 _ _ g4 g3 F2 N2 lt1 lt2 fun h3 tk3 tok F3 N3 => ?_))
        rw [if_pos (by rfl)]
        refine wpAny_bind (push_led (s := { s₀ with heap := h3, toks := tk3 }) (pre := []) F3 N3 (fun p hp => nomatch hp) hne (by omega) fun h4 F4 N4 => ?_)
        refine wpAny_pure ⟨plainId_quiet plain_subLoop _, ?_⟩
        rw [e1, e2, show (e == st) = false by simp; omega]
        refine ih e (n + 1) (k1 + 1) _ (ws1 ++ [cb ⟨x.cps.extract a e⟩]) h4 tk3 (by omega) g4 (by rw [List.length_append, List.length_singleton]; omega) ?_ (S1.push _ _) F4 N4 ?_
        · intro y hy'
          rcases List.mem_append.mp hy' with hy' | hy'
          · exact y1 y hy'
          · rw [List.mem_singleton.mp hy']; omega
        · rw [q1]; exact fin
      by_cases hds : d < st
      · rw [if_pos (by rw [e1]; simpa using hds)]
        refine wpAny_bind (wp_slice (s := { s₀ with heap := h, toks := tk }) (by omega) fun t1 => wpAny_bind (push_led (s := { s₀ with heap := h, toks := tk + 1 }) (pre := []) F N (fun p hp => nomatch hp) hne (by omega) fun h1 F1 N1 => ?_))
        rw [if_neg (by decide)]
        have hd' : (d : Int).toNat = d := by simp
        rw [hd', e1] at N1
        refine after (its.push (.str ⟨x.cps.extract d st⟩ t1)) (k + 1) (ws ++ [⟨x.cps.extract d st⟩]) h1 (tk + 1) (S.push _ _) (by rw [List.length_append, List.length_singleton]; omega) ?_ F1 N1 (by rw [hsub, if_pos hds]; simp [List.append_assoc])
        intro y hy'
        rcases List.mem_append.mp hy' with hy' | hy'
        · exact hy y hy'
        · rw [List.mem_singleton.mp hy']
          show (x.cps.extract d st).size ≤ 200
          rw [Array.size_extract]; omega
      · rw [if_neg (by rw [e1]; simpa using hds), if_neg (by decide)]
        exact after its k ws h tk S (by omega) hy F N (by rw [hsub, if_neg hds]; simp)
    · dsimp only
      have hsub : subGo find cb x.cps (fuel + 1) d = if d < x.cps.size then [(⟨x.cps.extract d x.cps.size⟩ : Str)] else [] := by
        conv => lhs; unfold subGo
        rw [hfind]
      have after : ∀ (its1 : Array Value) (k1 : Nat) (h1 : Heap) (tk1 : Nat), StrsAre its1 (ws ++ subGo find cb x.cps (fuel + 1) d) → Fr h₀ L h1 m → News h₀ L h1 ((lP, listOf its1 k1) :: news) →
          wpAny (model prog w) A.in1 (reSlice x.cps 0 0 0 >>= fun joiner => seqItems? (.ref lP) >>= fun items => if (items.getD #[]).isEmpty = true then (pure joiner >>= fun text => if false = true then (holding [text] (mkInt n >>= fun v => newTuple [text, v]) >>= fun r => ret r) else ret text) else
            (call (.builtin "str.join") [joiner, .ref lP] >>= fun text => if false = true then (holding [text] (mkInt n >>= fun v => newTuple [text, v]) >>= fun r => ret r) else ret text))
            (fun fin s' => match fin with | .done f => R (.ok f) s' | .again c' => c'.quiet = true ∧ codeAny (model prog w) A c' R s') (fun e s' => R (.error e) s') { s₀ with heap := h1, toks := tk1 } := by
        intro its1 k1 h1 tk1 S1 F1 N1
        have N1' : News h₀ L h1 news := fun p hp => N1 p (List.mem_cons_of_mem _ hp)
        obtain ⟨ps, rfl, e2⟩ := S1.vals
        have he : (⟨x.cps.extract 0 0⟩ : Str) = ⟨#[]⟩ := by simp
        refine wpAny_bind (wp_slice (s := { s₀ with heap := h1, toks := tk1 }) (by omega) fun t1 => ?_)
        refine wpAny_bind (wpAny_seqItems (N1 _ (List.mem_cons_self ..)).1 rfl ?_)
        rw [he]
        cases hp : ps with
        | nil =>
          rw [hp] at e2
          rw [if_pos (by rfl)]
          refine wpAny_bind (wpAny_pure ?_)
          rw [if_neg (by decide)]
          have z := fin h1 (tk1 + 1) t1 F1 N1'
          rw [← e2] at z
          exact wpAny_pure z
        | cons q ps' =>
          rw [if_neg (by simp [strValues])]
          refine wpAny_bind (SC.join (D := lP) (l := q :: ps') (texts := ws ++ subGo find cb x.cps (fuel + 1) d) ⟨_, (hp ▸ (N1 _ (List.mem_cons_self ..)).1), rfl, _, rfl⟩ (by rw [← hp]; exact e2) ?_ fun t' kk => ?_)
          · unfold JoinOk
            rw [Bool.not_eq_true']
            refine StrLaws.joinFits (B := 200) ?_ ?_
            · intro y hy'
              rcases List.mem_append.mp hy' with hy' | hy'
              · exact hy y hy'
              · rw [hsub] at hy'
                split at hy'
                · rw [List.mem_singleton.mp hy']
                  show (x.cps.extract d x.cps.size).size ≤ 200
                  rw [Array.size_extract]; omega
                · cases hy'
            · have hl : (subGo find cb x.cps (fuel + 1) d).length ≤ 1 := by rw [hsub]; split <;> simp
              show _ * 200 + _ * 0 ≤ 16777216
              rw [List.length_append]
              omega
          · rw [if_neg (by decide)]
            exact wpAny_pure (fin h1 kk t' F1 N1')
      by_cases hds : d < x.length
      · rw [if_pos (by simpa using hds)]
        refine wpAny_bind (wp_slice (s := { s₀ with heap := h, toks := tk }) (by omega) fun t1 => wpAny_bind (push_led (s := { s₀ with heap := h, toks := tk + 1 }) (pre := []) F N (fun p hp => nomatch hp) hne (by omega) fun h1 F1 N1 => ?_))
        have hd' : (d : Int).toNat = d := by simp
        rw [hd'] at N1
        refine after (its.push (.str ⟨x.cps.extract d x.length⟩ t1)) (k + 1) h1 (tk + 1) ?_ F1 N1
        rw [hsub, if_pos (by omega)]
        exact S.push _ _
      · rw [if_neg (by simpa using hds)]
        refine after its k h tk ?_ F N
        rw [hsub, if_neg (by omega), List.append_nil]
        exact S
end
end
section
open PySem PySem.W PySem.Spec PySem.Calls PyProof.Rows
open PySem.Builtin.Re
theorem fn_call : typeLookup (.type "function") "__call__" = pure (some (.builtin "function.__call__")) := by rw [typeLookup_type, builtinLookup_eq_fast]; kernel_rfl
section
variable {prog : Program} {w : World} {A : Around} {E : Value → Shared → Prop} {s : Shared} {h₀ : Heap} {L : Addr} {m : Str → Option Value} {news : List (Addr × Obj)}
theorem call_sub {P f : Addr} {fo : Obj} {code : Array Nat} {find : Nat → Option (Nat × Nat × Nat)} {cb : Str → Str} {x : Str} {t : Tok} {Q : Value → Shared → Prop} (I : IsPat h₀ P code 1) (FD : Finds code x.cps find) (hx : x.length ≤ 100) (hcbl : ∀ y, (cb y).length ≤ y.length + 10)
    (F : Fr h₀ L s.heap m) (N : News h₀ L s.heap news) (hf : (f, fo) ∈ news) (hfc : fo.cls = .type "function")
    (hcb : ∀ (lP : Addr) (h : Heap) (tk : Nat) (M T : Addr) (st e a : Nat) (its : Array Value) (k : Nat) (Q E : Value → Shared → Prop), e ≤ x.length → a ≤ e → Fr h₀ L h m → News h₀ L h ((M, matchObj x t P 0 x.length 1 T) :: (T, tupObj [rawInt st, rawInt e, rawInt a, rawInt e]) :: (lP, listOf its k) :: news) → (∀ p ∈ news, p.1 < lP) → lP < T → (∀ p ∈ news, p.1 < T) → T < M →
      (∀ h' tk' tok, Fr h₀ L h' m → News h₀ L h' ((lP, listOf its k) :: news) → Q (.str (cb ⟨x.cps.extract a e⟩) tok) { s with heap := h', toks := tk' }) →
        wpAny (model prog w) A.in1 (call (.ref f) [.ref M]) Q E { s with heap := h, toks := tk })
    (h : ∀ h' tk' tok, Fr h₀ L h' m → News h₀ L h' news → Q (.str (Txt.join ⟨#[]⟩ (subGo find cb x.cps (x.length + 1) 0)) tok) { s with heap := h', toks := tk' }) :
    wpAny (model prog w) A (call (.builtin "re.Pattern.sub") [.ref P, .ref f, .str x t]) Q E s := by
  have I' := I.keeps F.keep
  obtain ⟨o, pat, fl, tf, ct, oc, items, n, ho, hc, _⟩ := id I'.obj
  have hlk := fn_call
  have hfT : s.TypeIs (.ref f) "function" := ⟨_, (N _ hf).1, hfc⟩
  refine wpAny_call (codeAny_call_builtin slot_sub.plain entry_sub (slot_sub.check _ _ _ _ _ _ _ _ ⟨_, ho, hc⟩ (args_sub _ _ _) ?_))
  unfold Builtin.«re.Pattern.sub» reSubstitute
  dsimp only
  refine wpAny_bind ?_
  rw [named_sub]
  refine wpAny_pure ?_
  dsimp only
  refine wpAny_bind (wpAny_pure ?_)
  refine wpAny_bind (wpAny_specialOf hfT hlk ?_)
  refine wpAny_bind (wpAny_pure ?_)
  rw [if_pos (by rfl)]
  refine wpAny_bind (wpAny_pure ?_)
  dsimp only
  refine wpAny_bind (wpAny_holding (wp_wholeTarget I' ?_))
  rw [if_pos (by rfl)]
  refine wpAny_bind ?_
  unfold reNotHeld
  refine wpAny_bind ?_
  show wpAny _ _ (pure false) _ _ _
  refine wpAny_pure ?_
  rw [if_neg (by decide)]
  refine wpAny_pure ?_
  refine wpAny_bind (newList_K F N fun lP h1 F1 N1 l1 => ?_)
  refine wpAny_pure ⟨plainId_quiet plain_subLoop _, ?_⟩
  refine sub_loop (cb := cb) (find := find) (news := news) I FD hx hcbl (fun p hp => Nat.ne_of_lt (l1 p hp)) s (fun h tk M T i st e a its k Q E g1 g2 F2 N2 l2 l3 K => ?_) (x.length + 1) 0 0 0 #[] [] h1 s.toks (by omega) (Nat.zero_le _) (Nat.zero_le _) (fun y hy => nomatch hy) StrsAre.nil F1 N1 (fun h' tk' tok F' N' => h h' tk' tok F' N')
  exact hcb lP h tk M T st e a its k Q E g1 g2 F2 N2 l1 (l2 _ (List.mem_cons_self ..)) (fun p hp => l2 p (List.mem_cons_of_mem _ hp)) l3 K
end
end
section
open PySem PySem.W PySem.Spec PySem.Calls PyProof.Rows
open PySem.Builtin.Re
section
variable {prog : Program} {w : World} {A : Around} {E : Value → Shared → Prop} {s : Shared} {h₀ : Heap} {L : Addr} {m : Str → Option Value} {news : List (Addr × Obj)}
theorem wp_targetF {P : Addr} {code : Array Nat} {g : Nat} {x : Str} {t : Tok} {Q : ReTarget → Shared → Prop} (I : IsPat s.heap P code g) (hx : x.length ≤ 1000000)
    (h : Q { pattern := .ref P, string := .str x t, code := code, text := x.cps, kind := 0, groups := g, pos := 0, lim := x.length } s) :
    wpAny (model prog w) A (reTarget "re.Pattern.fullmatch" "fullmatch" ⟨[.ref P, .str x t], []⟩) Q E s := by
  obtain ⟨o, pat, fl, tf, ct, oc, items, n, ho, hc, hdd, hd, hct, hoc, hcode⟩ := I.obj
  unfold reTarget
  refine wpAny_bind ?_
  rw [named_full]
  refine wpAny_pure (wpAny_bind (wpAny_pure (wpAny_bind (wpAny_pure ?_))))
  refine wpAny_bind (wp_fields ho hd (wpAny_bind ?_))
  show wpAny _ _ (pure (x.cps, 0)) _ _ _
  refine wpAny_pure ?_
  show wpAny _ _ (reNoCollectionInside _ _ >>= _) _ _ _
  refine wpAny_bind (wpAny_pure ?_)
  refine wpAny_bind (wp_rawItems hct hoc (wpAny_pure ?_))
  rw [hcode]
  have e2 : min ((2 ^ 63 - 1 : Int)).toNat x.cps.size = x.length := by
    have : x.cps.size = x.length := rfl
    rw [this]
    have : ((2 ^ 63 - 1 : Int)).toNat = 9223372036854775807 := by decide
    omega
  dsimp only
  rw [e2, show min ((0 : Int)).toNat x.cps.size = 0 by simp]
  exact h
theorem call_fullmatch {P : Addr} {code : Array Nat} {k : Nat} {x : Str} {t : Tok} {res : Option Nat} {Q : Value → Shared → Prop} (I : IsPat h₀ P code 0) (F : Fr h₀ L s.heap m) (N : News h₀ L s.heap news) (hx : x.length ≤ 1000000)
    (hres : match res with | some e => Match k (Sre.forMatch code x.cps 0 0 x.length true false) 0 e #[] (-1) (-1) | none => NoMatch k (Sre.forMatch code x.cps 0 0 x.length true false)) (hk : k ≤ 1000000)
    (hyes : ∀ e, res = some e → ∀ h' M T, Fr h₀ L h' m → News h₀ L h' ((M, matchObj x t P 0 x.length (-1) T) :: (T, tupObj [rawInt ((0 : Nat) : Int), rawInt e]) :: news) → (∀ p ∈ news, p.1 < T) → T < M → Q (.ref M) { s with heap := h' })
    (hno : res = none → Q .none s) : wpAny (model prog w) A (call (.builtin "re.Pattern.fullmatch") [.ref P, .str x t]) Q E s := by
  have I' := I.keeps F.keep
  obtain ⟨o, pat, fl, tf, ct, oc, items, n, ho, hc, _⟩ := id I'.obj
  refine wpAny_call_entry slot_fullmatch ⟨o, ho, hc⟩ entry_fullmatch ?_ (args_fullmatch _ _)
  unfold Builtin.«re.Pattern.fullmatch»
  refine wpAny_bind (wp_targetF I' hx ?_)
  dsimp only
  unfold reAnswer
  dsimp only
  cases res with
  | some e =>
    refine wpAny_bind (wp_toEnd_match hres hk fun m' e1 e2 e3 e4 e5 => ?_)
    refine wpAny_bind (wp_newMatch0 F N fun h' M T F' N' l1 l2 => ?_)
    rw [e1, e2, e5] at N'
    exact wpAny_pure ⟨_, rfl, hyes e rfl h' M T F' N' l1 l2⟩
  | none => exact wpAny_bind (wp_toEnd_none hres hk (wpAny_pure ⟨_, rfl, hno rfl⟩))
end
end
section
open PySem PySem.W PySem.Spec PySem.Calls PyProof.Rows
theorem uFind_lt {text : Array Nat} {lim : Nat} : ∀ (f s : Nat) {e : Nat}, uFind text lim f s = some e → s ≤ e ∧ e + 1 < lim ∧ text.getD e 0 = 92 ∧ isQp (text.getD (e + 1) 0) = true := by
  intro f
  induction f with
  | zero => intro s e h; cases h
  | succ f ih =>
    intro s e h
    unfold uFind at h
    split at h
    · split at h
      · rename_i q
        cases h
        simp only [Bool.and_eq_true, beq_iff_eq, decide_eq_true_eq] at q
        exact ⟨Nat.le_refl _, q.1.2, q.1.1, q.2⟩
      · have := ih (s + 1) h
        exact ⟨by omega, this.2⟩
    · cases h
def uF (text : Array Nat) (pos : Nat) : Option (Nat × Nat × Nat) := (uFind text text.size (text.size + 1) pos).map fun e => (e, e + 1, e + 2)
def qF (text : Array Nat) (pos : Nat) : Option (Nat × Nat × Nat) := (sFind text text.size (text.size + 1 - pos) pos).map fun e => (e, e, e + 1)
theorem match_le {a b : Nat} {m : Sre.M} {s h : Nat} {mk : Array (Option Nat)} {lm li : Int} (x : Match a m s h mk lm li) (hab : a ≤ b) : Match b m s h mk lm li := by
  obtain ⟨m', g, ho, r⟩ := x
  obtain ⟨j, rfl⟩ := Nat.le.dest hab
  refine ⟨m', fun sn => ?_, ho, r⟩
  obtain ⟨s', e⟩ := g sn
  refine ⟨s', ?_⟩
  rw [runFor_add, e]
  cases j with
  | zero => rfl
  | succ j => exact if_pos (by show m'.outcome.isSome = true; rw [ho]; rfl)
theorem nomatch_le {a b : Nat} {m : Sre.M} (x : NoMatch a m) (hab : a ≤ b) : NoMatch b m := x.le hab
theorem uq_finds {text : Array Nat} (hz : text.size ≤ 1000) : Finds uqCode text (uF text) := ⟨fun pos hp => by
  have h := uq_search (text := text) (lim := text.size) (pos := pos) hp
  unfold uF
  cases q : uFind text text.size (text.size + 1) pos with
  | none => rw [q] at h; exact nomatch_le h (by omega)
  | some e =>
    rw [q] at h
    have l := uFind_lt _ _ q
    exact ⟨l.1, by omega, by omega, by omega, match_le h (by omega)⟩⟩
theorem qt_finds {text : Array Nat} (hz : text.size ≤ 1000) : Finds qtCode text (qF text) := ⟨fun pos hp => by
  have h := qt_search (text := text) (lim := text.size) (pos := pos) hp
  unfold qF
  cases q : sFind text text.size (text.size + 1 - pos) pos with
  | none => rw [q] at h; exact nomatch_le h (by omega)
  | some e =>
    rw [q] at h
    have l := sFind_lt _ _ q
    exact ⟨l.1, by omega, by omega, by omega, match_le h (by omega)⟩⟩
end
section
open PySem PySem.W PySem.Spec PySem.Calls PyProof.Rows
theorem fresh01 : True := by
  w_top off
  trivial
section
theorem mark_mem (c : Nat) : decide (c ∈ (Str.ofString "-!#$%&'*+.^_`|~0123456789abcdefghijklmnopqrstuvwxyzABCDEFGHIJKLMNOPQRSTUVWXYZ").cps.toList) = isMark c := by
  have key : ∀ c, c < 256 → decide (c ∈ (Str.ofString "-!#$%&'*+.^_`|~0123456789abcdefghijklmnopqrstuvwxyzABCDEFGHIJKLMNOPQRSTUVWXYZ").cps.toList) = isMark c := by decide +kernel
  have low : ∀ d ∈ (Str.ofString "-!#$%&'*+.^_`|~0123456789abcdefghijklmnopqrstuvwxyzABCDEFGHIJKLMNOPQRSTUVWXYZ").cps.toList, d < 256 := by decide +kernel
  by_cases hc : c < 256
  · exact key c hc
  · rw [decide_eq_false (fun h => hc (low c h))]
    unfold isMark csHas
    simp [hc]
theorem mark_in (c : Nat) : (!(Builtin.Str.occurrences (Str.ofString "-!#$%&'*+.^_`|~0123456789abcdefghijklmnopqrstuvwxyzABCDEFGHIJKLMNOPQRSTUVWXYZ") ⟨#[c]⟩ 0 (Str.ofString "-!#$%&'*+.^_`|~0123456789abcdefghijklmnopqrstuvwxyzABCDEFGHIJKLMNOPQRSTUVWXYZ").length 1).isEmpty) = isMark c :=
  (StrLaws.found_one _ c).trans (mark_mem c)
section
variable {t : Array Nat} {q : Nat → Bool} {n j : Nat}
theorem runLen_true (h : q (t.getD j 0) = true) (hj : j < n) : runLen t q (n - j) j = 1 + runLen t q (n - (j + 1)) (j + 1) := by
  obtain ⟨k, hk⟩ : ∃ k, n - j = k + 1 := ⟨n - j - 1, by omega⟩
  rw [hk]
  conv => lhs; unfold runLen
  rw [if_pos h, show n - (j + 1) = k by omega, Nat.add_comm]
theorem runLen_false (h : q (t.getD j 0) = false) : runLen t q (n - j) j = 0 := by
  cases hk : n - j with
  | zero => rfl
  | succ k => unfold runLen; rw [if_neg (by rw [h]; decide)]
theorem runLen_end (h : ¬ (j : Int) < (n : Int)) : runLen t q (n - j) j = 0 := by
  rw [show n - j = 0 by omega]; rfl
end
theorem item_nat {x : Str} {j : Nat} (h : (j : Int) < x.length) : Txt.item x (j : Int) = ⟨#[x.cps.getD j 0]⟩ := W.item_meets ⟨by omega, h⟩

theorem c_isMark {prog : Program} {w : World} {p : Program} {loose : List Str} {mean : ExcName → Option Value} {mg mb : Str → Option Value}
  (v : Str) (c : Nat) (tx : Tok) (hv : v = ⟨#[c]⟩) :
  Cx prog w p loose mean mg mb 1 [.str v tx] 198 fun h₀ L m news s Q E =>
   ∀ (h' : Heap) (tk' : Nat), Fr h₀ L h' m → News h₀ L h' news → Q (.bool (isMark c)) { s with heap := h', toks := tk' } := by
  subst hv
  intro dp un gd cn cs a ccd cl outer A₀ base h₀ L m news s Q E B F X N T hk hd hu hret
  refine wpAny_call ?_
  (k_dflt cell_enter)
  k_steps
  rw [mark_in]
  exact hret _ _ (by assumption) (by assumption)
end
local macro_rules | `(tactic| walk_at "exec While") => `(tactic| refine Hold.out ?_)
local macro_rules | `(tactic| walk_at "call ref") => `(tactic| (k_here; (with_reducible show wpAny _ _ (call (Value.ref 198) [_]) _ _ _); k_dflt (refine' Cx.use (c_isMark _ _ _ ?e) ?B ?F ?X ?N ?T ?hk ?hd ?hu ?_; (case e => exact item_nat (by assumption)); (case B => k_asm); (case F => k_asm); (case X => k_asm); (case N => k_asm); (case T => k_asm); (case hk => first | exact rfl | assumption); (case hd => ktr_room); (case hu => ktr_units)); intro h9 tk9 F9 N9; (try dsimp only)))
theorem fresh02 : True := by
  w_top off
  trivial
section
/-- where a word that begins at i ends -/
def wEnd (x : Str) (i : Nat) : Nat := i + runLen x.cps isMark (x.length - i) i
theorem c_wordEnd {prog : Program} {w : World} {p : Program} {loose : List Str} {mean : ExcName → Option Value} {mg mb : Str → Option Value}
  (x : Str) (tx : Tok) (k : Int) (i : Nat) (ti : Tok) (hki : k = i) (hi : i ≤ x.length) (hx : x.length ≤ 1000) :
  Cx prog w p loose mean mg mb 2 [.str x tx, .int k ti] 205 fun h₀ L m news s Q E =>
   ∀ (t : Tok) (h' : Heap) (tk' : Nat), Fr h₀ L h' m → News h₀ L h' news → Q (.int (wEnd x i : Nat) t) { s with heap := h', toks := tk' } := by
  subst hki
  intro dp un gd cn cs a ccd cl outer A₀ base h₀ L m news s Q E B F X N T hk hd hu hret
  refine wpAny_call ?_
  (k_dflt cell_enter)
  k_steps
  refine Hold.mk (while_one (nm := "place") (fun k => ∃ j : Nat, k = j ∧ i ≤ j ∧ j ≤ x.length ∧ wEnd x i = wEnd x j) (fun k => (x.length - k).toNat)
    (fun k => k = (wEnd x i : Nat)) (by assumption) (by assumption) rfl ⟨i, rfl, Nat.le_refl _, hi, rfl⟩ (fun k t h tk hP F1 N1 => ?_) (fun k t h tk hX F1 N1 => ?_))
  · obtain ⟨j, rfl, h1, h2, h3⟩ := hP
    k_steps
    · refine WOne.of (by assumption) (by assumption) (fun _ h => h) ⟨j + 1, by omega, by omega, by omega, ?_⟩ (by omega)
      rw [h3]
      unfold wEnd
      rw [runLen_true (by assumption) (by omega)]
      omega
    · refine WOut.of (by assumption) (by assumption) (fun _ h => h) ?_
      rw [h3]
      unfold wEnd
      rw [runLen_false (by assumption)]
      rfl
    · refine WOut.of (by assumption) (by assumption) (fun _ h => h) ?_
      rw [h3]
      unfold wEnd
      rw [runLen_end (by assumption)]
      rfl
  · k_steps
    subst hX
    exact hret _ _ _ (by assumption) (by assumption)
theorem wEnd_ge (x : Str) (i : Nat) : i ≤ wEnd x i := Nat.le_add_right _ _
theorem wEnd_le {x : Str} {i : Nat} (h : i ≤ x.length) : wEnd x i ≤ x.length := by
  unfold wEnd
  have := runLen_le x.cps isMark (x.length - i) i
  omega
end
local macro_rules | `(tactic| walk_at "call ref") => `(tactic| (k_here; (with_reducible show wpAny _ _ (call (Value.ref 205) [_, _]) _ _ _); k_dflt (refine' Cx.use (c_wordEnd _ _ _ _ _ ?e0 ?e ?g) ?B ?F ?X ?N ?T ?hk ?hd ?hu ?_; (case e0 => first | (with_reducible exact rfl) | exact (Int.natCast_add _ 1).symm | exact (rfl : (0 : Int) = ((0 : Nat) : Int))); (case e => first | assumption | exact Nat.zero_le _ | omega); (case g => first | assumption | omega); (case B => k_asm); (case F => k_asm); (case X => k_asm); (case N => k_asm); (case T => k_asm); (case hk => first | exact rfl | assumption); (case hd => ktr_room); (case hu => ktr_units)); intro t9 h9 tk9 F9 N9; (try dsimp only)))
theorem fresh03 : True := by
  w_top off
  trivial
section
theorem one_beq (c d : Nat) : ((⟨#[c]⟩ : Str) == ⟨#[d]⟩) = (c == d) := by
  by_cases h : c = d
  · subst h; simp
  · rw [beq_eq_false_iff_ne.mpr h, beq_eq_false_iff_ne]
    intro e
    exact h (by simpa using congrArg (fun s : Str => s.cps.toList) e)
theorem item_beq {x : Str} {j : Nat} (d : Nat) (h : (j : Int) < x.length) : (Txt.item x (j : Int) == ⟨#[d]⟩) = (x.cps.getD j 0 == d) := by
  rw [item_nat h, one_beq]
theorem slash_item {x : Str} {j : Nat} (h : (j : Int) < x.length) : (Txt.item x (j : Int) == Str.ofString "/") = (x.cps.getD j 0 == 47) := item_beq 47 h
theorem comma_item {x : Str} {j : Nat} (h : (j : Int) < x.length) : (Txt.item x (j : Int) == Str.ofString ",") = (x.cps.getD j 0 == 44) := item_beq 44 h
theorem comma_yes {x : Str} {j : Nat} (h : (j : Int) < x.length) (e : (Txt.item x (j : Int) == Str.ofString ",") = true) : x.cps.getD j 0 = 44 := by
  rw [comma_item h] at e; exact beq_iff_eq.mp e
theorem comma_no {x : Str} {j : Nat} (h : (j : Int) < x.length) (e : (Txt.item x (j : Int) == Str.ofString ",") = false) : x.cps.getD j 0 ≠ 44 := by
  rw [comma_item h] at e; exact beq_eq_false_iff_ne.mp e
/-- where an upgrade's word, with its second part, ends -/
def uEnd (x : Str) (i : Nat) : Nat :=
  if i < wEnd x i then (if wEnd x i < x.length then (if x.cps.getD (wEnd x i) 0 == 47 then (if wEnd x i + 1 < wEnd x (wEnd x i + 1) then wEnd x (wEnd x i + 1) else wEnd x i) else wEnd x i) else wEnd x i) else wEnd x i
theorem uEnd_ge (x : Str) (i : Nat) : i ≤ uEnd x i := by
  have := wEnd_ge x i
  unfold uEnd
  (repeat' split) <;> omega
theorem uEnd_le {x : Str} {i : Nat} (h : i ≤ x.length) : uEnd x i ≤ x.length := by
  have h1 := wEnd_le h
  unfold uEnd
  split
  · split
    · split
      · split
        · exact wEnd_le (by omega)
        · exact h1
      · exact h1
    · exact h1
  · exact h1
theorem c_upgEnd {prog : Program} {w : World} {p : Program} {loose : List Str} {mean : ExcName → Option Value} {mg mb : Str → Option Value}
  (x : Str) (tx : Tok) (k : Int) (i : Nat) (ti : Tok) (hki : k = i) (hi : i ≤ x.length) (hx : x.length ≤ 1000) :
  Cx prog w p loose mean mg mb 3 [.str x tx, .int k ti] 212 fun h₀ L m news s Q E =>
   ∀ (t : Tok) (h' : Heap) (tk' : Nat), Fr h₀ L h' m → News h₀ L h' news → Q (.int (uEnd x i : Nat) t) { s with heap := h', toks := tk' } := by
  subst hki
  have hw1 := wEnd_ge x i
  have hw2 := wEnd_le hi
  intro dp un gd cn cs a ccd cl outer A₀ base h₀ L m news s Q E B F X N T hk hd hu hret
  refine wpAny_call ?_
  (k_dflt cell_enter)
  k_steps
  · have e : uEnd x i = wEnd x (wEnd x i + 1) := by
      unfold uEnd
      rw [if_pos (by omega), if_pos (by omega), if_pos (by rw [← slash_item (by assumption)]; assumption), if_pos (by omega)]
    rw [← e]; exact hret _ _ _ (by assumption) (by assumption)
  · have e : uEnd x i = wEnd x i := by
      unfold uEnd
      rw [if_pos (by omega), if_pos (by omega), if_pos (by rw [← slash_item (by assumption)]; assumption), if_neg (by omega)]
    rw [← e]; exact hret _ _ _ (by assumption) (by assumption)
  · have e : uEnd x i = wEnd x i := by
      unfold uEnd
      rw [if_pos (by omega), if_pos (by omega), if_neg (by rw [← slash_item (by assumption), Bool.not_eq_true]; assumption)]
    rw [← e]; exact hret _ _ _ (by assumption) (by assumption)
  · have e : uEnd x i = wEnd x i := by
      unfold uEnd
      rw [if_pos (by omega), if_neg (by omega)]
    rw [← e]; exact hret _ _ _ (by assumption) (by assumption)
  · have e : uEnd x i = wEnd x i := by
      unfold uEnd
      rw [if_neg (by omega)]
    rw [← e]; exact hret _ _ _ (by assumption) (by assumption)
end
local macro_rules | `(tactic| walk_at "call ref") => `(tactic| (k_here; (with_reducible show wpAny _ _ (call (Value.ref 212) [_, _]) _ _ _); k_dflt (refine' Cx.use (c_upgEnd _ _ _ _ _ ?e0 ?e ?g) ?B ?F ?X ?N ?T ?hk ?hd ?hu ?_; (case e0 => first | (with_reducible exact rfl) | exact (Int.natCast_add _ 1).symm | exact (rfl : (0 : Int) = ((0 : Nat) : Int))); (case e => first | assumption | exact Nat.zero_le _ | omega); (case g => first | assumption | omega); (case B => k_asm); (case F => k_asm); (case X => k_asm); (case N => k_asm); (case T => k_asm); (case hk => first | exact rfl | assumption); (case hd => ktr_room); (case hu => ktr_units)); intro t9 h9 tk9 F9 N9; (try dsimp only)))
theorem fresh04 : True := by
  w_top off
  trivial
section
/-- the end of the blanks -/
def bEnd (x : Str) (i : Nat) : Nat := i + runLen x.cps isBlank (x.length - i) i
theorem bEnd_ge (x : Str) (i : Nat) : i ≤ bEnd x i := Nat.le_add_right _ _
theorem bEnd_le {x : Str} {i : Nat} (h : i ≤ x.length) : bEnd x i ≤ x.length := by
  unfold bEnd
  have := runLen_le x.cps isBlank (x.length - i) i
  omega
theorem blank_mem (c : Nat) : decide (c ∈ (Str.ofString "\t ").cps.toList) = isBlank c := by
  have key : ∀ c, c < 256 → decide (c ∈ (Str.ofString "\t ").cps.toList) = isBlank c := by decide +kernel
  have low : ∀ d ∈ (Str.ofString "\t ").cps.toList, d < 256 := by decide +kernel
  by_cases hc : c < 256
  · exact key c hc
  · rw [decide_eq_false (fun h => hc (low c h))]
    unfold isBlank
    simp
    omega
theorem blank_in {x : Str} {j : Nat} (h : (j : Int) < x.length) : (!(Builtin.Str.occurrences (Str.ofString "\t ") (Txt.item x (j : Int)) 0 (Str.ofString "\t ").length 1).isEmpty) = isBlank (x.cps.getD j 0) := by
  rw [item_nat h]
  exact (StrLaws.found_one _ _).trans (blank_mem _)
theorem blank_yes {x : Str} {j : Nat} (h : (j : Int) < x.length) (e : (Builtin.Str.occurrences (Str.ofString "\t ") (Txt.item x (j : Int)) 0 (Str.ofString "\t ").length 1).isEmpty = false) : isBlank (x.cps.getD j 0) = true := by
  rw [← blank_in h, e]; rfl
theorem blank_no {x : Str} {j : Nat} (h : (j : Int) < x.length) (e : (Builtin.Str.occurrences (Str.ofString "\t ") (Txt.item x (j : Int)) 0 (Str.ofString "\t ").length 1).isEmpty = true) : isBlank (x.cps.getD j 0) = false := by
  rw [← blank_in h, e]; rfl
theorem c_blankEnd {prog : Program} {w : World} {p : Program} {loose : List Str} {mean : ExcName → Option Value} {mg mb : Str → Option Value}
  (x : Str) (tx : Tok) (k : Int) (i : Nat) (ti : Tok) (hki : k = i) (hi : i ≤ x.length) (hx : x.length ≤ 1000) :
  Cx prog w p loose mean mg mb 2 [.str x tx, .int k ti] 219 fun h₀ L m news s Q E =>
   ∀ (t : Tok) (h' : Heap) (tk' : Nat), Fr h₀ L h' m → News h₀ L h' news → Q (.int (bEnd x i : Nat) t) { s with heap := h', toks := tk' } := by
  subst hki
  intro dp un gd cn cs a ccd cl outer A₀ base h₀ L m news s Q E B F X N T hk hd hu hret
  refine wpAny_call ?_
  (k_dflt cell_enter)
  k_steps
  refine Hold.mk (while_one (nm := "place") (fun k => ∃ j : Nat, k = j ∧ i ≤ j ∧ j ≤ x.length ∧ bEnd x i = bEnd x j) (fun k => (x.length - k).toNat)
    (fun k => k = (bEnd x i : Nat)) (by assumption) (by assumption) rfl ⟨i, rfl, Nat.le_refl _, hi, rfl⟩ (fun k t h tk hP F1 N1 => ?_) (fun k t h tk hX F1 N1 => ?_))
  · obtain ⟨j, rfl, h1, h2, h3⟩ := hP
    k_steps
    · refine WOut.of (by assumption) (by assumption) (fun _ h => h) ?_
      rw [h3]
      unfold bEnd
      rw [runLen_false (blank_no (by assumption) (by assumption))]
      rfl
    · refine WOne.of (by assumption) (by assumption) (fun _ h => h) ⟨j + 1, by omega, by omega, by omega, ?_⟩ (by omega)
      rw [h3]
      unfold bEnd
      rw [runLen_true (blank_yes (by assumption) (by assumption)) (by omega)]
      omega
    · refine WOut.of (by assumption) (by assumption) (fun _ h => h) ?_
      rw [h3]
      unfold bEnd
      rw [runLen_end (by assumption)]
      rfl
  · k_steps
    subst hX
    exact hret _ _ _ (by assumption) (by assumption)
end
local macro_rules | `(tactic| walk_at "call ref") => `(tactic| (k_here; (with_reducible show wpAny _ _ (call (Value.ref 219) [_, _]) _ _ _); k_dflt (refine' Cx.use (c_blankEnd _ _ _ _ _ ?e0 ?e ?g) ?B ?F ?X ?N ?T ?hk ?hd ?hu ?_; (case e0 => first | (with_reducible exact rfl) | exact (Int.natCast_add _ 1).symm | exact (rfl : (0 : Int) = ((0 : Nat) : Int))); (case e => first | assumption | exact Nat.zero_le _ | omega); (case g => first | assumption | omega); (case B => k_asm); (case F => k_asm); (case X => k_asm); (case N => k_asm); (case T => k_asm); (case hk => first | exact rfl | assumption); (case hd => ktr_room); (case hu => ktr_units)); intro t9 h9 tk9 F9 N9; (try dsimp only)))
theorem fresh05 : True := by
  w_top off
  trivial
section
/-- the end of the commas and of the blanks after them -/
def cEndF (x : Str) : Nat → Nat → Nat
  | 0, i => i
  | n + 1, i => if i < x.length ∧ x.cps.getD i 0 = 44 then cEndF x n (bEnd x (i + 1)) else i
theorem cEndF_eq (x : Str) : ∀ n k i, x.length - i ≤ n → x.length - i ≤ k → cEndF x n i = cEndF x k i := by
  intro n
  induction n with
  | zero =>
    intro k i h1 h2
    cases k with
    | zero => rfl
    | succ k =>
      unfold cEndF
      rw [if_neg (by omega)]
  | succ n ih =>
    intro k i h1 h2
    cases k with
    | zero =>
      unfold cEndF
      rw [if_neg (by omega)]
    | succ k =>
      unfold cEndF
      have := bEnd_ge x (i + 1)
      split
      · exact ih k _ (by omega) (by omega)
      · rfl
def cEnd (x : Str) (i : Nat) : Nat := cEndF x (x.length - i) i
theorem cEnd_comma {x : Str} {i : Nat} (h : i < x.length) (h2 : x.cps.getD i 0 = 44) : cEnd x i = cEnd x (bEnd x (i + 1)) := by
  have := bEnd_ge x (i + 1)
  have e : cEnd x i = cEndF x (x.length - i - 1 + 1) i := cEndF_eq x _ _ i (by omega) (by omega)
  rw [e]
  conv => lhs; unfold cEndF
  rw [if_pos ⟨h, h2⟩]
  exact cEndF_eq x _ _ _ (by omega) (by omega)
theorem cEnd_stop {x : Str} {i : Nat} (h : ¬ (i < x.length ∧ x.cps.getD i 0 = 44)) : cEnd x i = i := by
  unfold cEnd
  cases x.length - i with
  | zero => rfl
  | succ n => unfold cEndF; rw [if_neg h]
theorem cEndF_ge (x : Str) : ∀ n i, i ≤ cEndF x n i := by
  intro n
  induction n with
  | zero => intro i; exact Nat.le_refl _
  | succ n ih =>
    intro i
    unfold cEndF
    have := bEnd_ge x (i + 1)
    have := ih (bEnd x (i + 1))
    split <;> omega
theorem cEndF_le (x : Str) : ∀ n i, i ≤ x.length → cEndF x n i ≤ x.length := by
  intro n
  induction n with
  | zero => intro i h; exact h
  | succ n ih =>
    intro i h
    unfold cEndF
    split
    · exact ih _ (bEnd_le (by omega))
    · exact h
theorem cEnd_ge (x : Str) (i : Nat) : i ≤ cEnd x i := cEndF_ge x _ i
theorem cEnd_le {x : Str} {i : Nat} (h : i ≤ x.length) : cEnd x i ≤ x.length := cEndF_le x _ i h
theorem c_commasEnd {prog : Program} {w : World} {p : Program} {loose : List Str} {mean : ExcName → Option Value} {mg mb : Str → Option Value}
  (x : Str) (tx : Tok) (k : Int) (i : Nat) (ti : Tok) (hki : k = i) (hi : i ≤ x.length) (hx : x.length ≤ 1000) :
  Cx prog w p loose mean mg mb 3 [.str x tx, .int k ti] 226 fun h₀ L m news s Q E =>
   ∀ (t : Tok) (h' : Heap) (tk' : Nat), Fr h₀ L h' m → News h₀ L h' news → Q (.int (cEnd x i : Nat) t) { s with heap := h', toks := tk' } := by
  subst hki
  intro dp un gd cn cs a ccd cl outer A₀ base h₀ L m news s Q E B F X N T hk hd hu hret
  refine wpAny_call ?_
  (k_dflt cell_enter)
  k_steps
  refine Hold.mk (while_one (nm := "place") (fun k => ∃ j : Nat, k = j ∧ i ≤ j ∧ j ≤ x.length ∧ cEnd x i = cEnd x j) (fun k => (x.length - k).toNat)
    (fun k => k = (cEnd x i : Nat)) (by assumption) (by assumption) rfl ⟨i, rfl, Nat.le_refl _, hi, rfl⟩ (fun k t h tk hP F1 N1 => ?_) (fun k t h tk hX F1 N1 => ?_))
  · obtain ⟨j, rfl, h1, h2, h3⟩ := hP
    k_steps
    · refine WOne.of (by assumption) (by assumption) (fun _ h => h) ⟨bEnd x (j + 1), rfl, ?_, bEnd_le (by omega), ?_⟩ ?_
      · have := bEnd_ge x (j + 1); omega
      · rw [h3, cEnd_comma (by omega) (comma_yes (by assumption) (by assumption))]
      · have := bEnd_ge x (j + 1); have := bEnd_le (x := x) (i := j + 1) (by omega); omega
    · refine WOut.of (by assumption) (by assumption) (fun _ h => h) ?_
      rw [h3, cEnd_stop (fun hh => comma_no (by assumption) (by assumption) hh.2)]
    · refine WOut.of (by assumption) (by assumption) (fun _ h => h) ?_
      rw [h3, cEnd_stop (fun hh => by omega)]
  · k_steps
    subst hX
    exact hret _ _ _ (by assumption) (by assumption)
end
local macro_rules | `(tactic| walk_at "call ref") => `(tactic| (k_here; (with_reducible show wpAny _ _ (call (Value.ref 226) [_, _]) _ _ _); k_dflt (refine' Cx.use (c_commasEnd _ _ _ _ _ ?e0 ?e ?g) ?B ?F ?X ?N ?T ?hk ?hd ?hu ?_; (case e0 => first | (with_reducible exact rfl) | exact (Int.natCast_add _ 1).symm | exact (rfl : (0 : Int) = ((0 : Nat) : Int))); (case e => first | assumption | exact Nat.zero_le _ | omega); (case g => first | assumption | omega); (case B => k_asm); (case F => k_asm); (case X => k_asm); (case N => k_asm); (case T => k_asm); (case hk => first | exact rfl | assumption); (case hd => ktr_room); (case hu => ktr_units)); intro t9 h9 tk9 F9 N9; (try dsimp only)))
theorem fresh06 : True := by
  w_top off
  trivial
section
theorem c_peek {prog : Program} {w : World} {p : Program} {loose : List Str} {mean : ExcName → Option Value} {mg mb : Str → Option Value}
  (x : Str) (tx : Tok) (k : Int) (i : Nat) (ti : Tok) (hki : k = i) (hi : i ≤ x.length) (hx : x.length ≤ 1000) :
  Cx prog w p loose mean mg mb 1 [.str x tx, .int k ti] 60 fun h₀ L m news s Q E =>
   (∀ (t : Tok) (h' : Heap) (tk' : Nat), (i : Int) < (x.length : Int) → Fr h₀ L h' m → News h₀ L h' news → Q (.str (Txt.item x i) t) { s with heap := h', toks := tk' }) ∧
   (∀ (h' : Heap) (tk' : Nat), (i : Int) = (x.length : Int) → Fr h₀ L h' m → News h₀ L h' news → Q .none { s with heap := h', toks := tk' }) := by
  subst hki
  rintro dp un gd cn cs a ccd cl outer A₀ base h₀ L m news s Q E B F X N T hk hd hu ⟨hyes, hno⟩
  refine wpAny_call ?_
  (k_dflt cell_enter)
  k_steps
  · exact hno _ _ (by omega) (by assumption) (by assumption)
  · exact hyes _ _ _ (by omega) (by assumption) (by assumption)
end
local macro_rules | `(tactic| walk_at "call ref") => `(tactic| (k_here; (with_reducible show wpAny _ _ (call (Value.ref 60) [_, _]) _ _ _); k_dflt (refine' Cx.use (c_peek _ _ _ _ _ ?e0 ?e ?g) ?B ?F ?X ?N ?T ?hk ?hd ?hu ?_; (case e0 => first | (with_reducible exact rfl) | exact (Int.natCast_add _ 1).symm | exact (rfl : (0 : Int) = ((0 : Nat) : Int))); (case e => first | assumption | exact Nat.zero_le _ | omega); (case g => first | assumption | omega); (case B => k_asm); (case F => k_asm); (case X => k_asm); (case N => k_asm); (case T => k_asm); (case hk => first | exact rfl | assumption); (case hd => ktr_room); (case hu => ktr_units)); refine And.intro (fun t9 h9 tk9 lt9 F9 N9 => ?_) (fun h9 tk9 eq9 F9 N9 => ?_); (try dsimp only)))
theorem fresh07 : True := by
  w_top off
  trivial
section
theorem owsEnd_bEnd (x : Str) (i : Nat) : i + runLen x.cps isBlank (x.length - i) i = bEnd x i := rfl
section
variable {prog : Program} {w : World} {A : Around} {E : Value → Shared → Prop} {s : Shared} {h₀ : Heap} {L : Addr} {m : Str → Option Value} {news : List (Addr × Obj)}
theorem ows_call {k : Int} {i : Nat} {x : Str} {t u : Tok} {Q : Value → Shared → Prop} (hki : k = i) (X : (hd.heap_39 w.params).In h₀) (F : Fr h₀ L s.heap m) (N : News h₀ L s.heap news) (hi : i ≤ x.length) (hx : x.length ≤ 1000)
    (hyes : ∀ h' M T, Fr h₀ L h' m → News h₀ L h' ((M, matchObj x t 65 i x.length (-1) T) :: (T, tupObj [rawInt i, rawInt (bEnd x i)]) :: news) → (∀ p ∈ news, p.1 < T) → T < M → Q (.ref M) { s with heap := h' }) :
    wpAny (model prog w) A (call (.builtin "re.Pattern.match") [.ref 65, .str x t, .int k u]) Q E s := by
  subst hki
  exact call_match (k := 4) (res := some (bEnd x i)) (pat_ows X) F N hi (by omega)
    (by have h := OneRun.match ows_one (text := x.cps) (pos := i) (lim := x.length) hi (by omega); rw [if_neg (Nat.not_lt_zero _)] at h; exact h)
    (by omega) (fun e he h' M T F' N' l1 l2 => by cases he; exact hyes h' M T F' N' l1 l2) (fun e => by cases e)
end
local macro_rules | `(tactic| walk_at "getMethod ref") => `(tactic| (k_here; (with_reducible show wpAny _ _ (getMethod (Value.ref _) (PySem.Str.ofString "match") _) _ _ _); k_dflt (refine' getMethod_pat (g := 0) ?I ?F slot_match type_match ?_; (case I => first | exact pat_ows (by k_asm) | exact pat_tok (by k_asm) | exact pat_qs (by k_asm) | exact pat_proto (by k_asm)); (case F => k_asm); k_whole)))
local macro_rules | `(tactic| walk_at "getMethod ref") => `(tactic| (k_here; (with_reducible show wpAny _ _ (getMethod (Value.ref _) (PySem.Str.ofString "end") _) _ _ _); k_dflt (refine' getMethod_mt ?N ?h slot_end type_end ?_; (case N => k_asm); (case h => k_mem); k_whole)))
local macro_rules | `(tactic| walk_at "getMethod ref") => `(tactic| (k_here; (with_reducible show wpAny _ _ (getMethod (Value.ref _) (PySem.Str.ofString "group") _) _ _ _); k_dflt (refine' getMethod_mt ?N ?h slot_group type_group ?_; (case N => k_asm); (case h => k_mem); k_whole)))
local macro_rules | `(tactic| walk_at "call builtin:re.Match.end") => `(tactic| (k_here; k_dflt (refine' call_end ?N ?h ?t ?_; (case N => k_asm); (case h => k_mem); (case t => k_mem); k_whole); intro t9'))
local macro_rules | `(tactic| walk_at "call builtin:re.Match.group") => `(tactic| (k_here; k_dflt (refine' call_group0 ?N ?h ?t ?x ?_; (case N => k_asm); (case h => k_mem); (case t => k_mem); (case x => omega); k_whole); intro t9'))
section
local macro_rules | `(tactic| walk_at "call builtin:re.Pattern.match") => `(tactic| (k_here; k_dflt (refine' ows_call rfl ?X ?F ?N ?a ?b ?_; (case X => k_asm); (case F => k_asm); (case N => k_asm); (case a => assumption); (case b => assumption); k_whole); intro h' M' T' F' N' l1 l2; (try k_lt l1); (try k_lt2 l2); (try k_sweep)))
theorem c_ows {prog : Program} {w : World} {p : Program} {loose : List Str} {mean : ExcName → Option Value} {mg mb : Str → Option Value}
  (x : Str) (tx : Tok) (k : Int) (i : Nat) (ti : Tok) (hki : k = i) (hi : i ≤ x.length) (hx : x.length ≤ 1000) :
  Cx prog w p loose mean mg mb 1 [.str x tx, .int k ti] 72 fun h₀ L m news s Q E =>
   ∀ (t : Tok) (h' : Heap) (tk' : Nat), Fr h₀ L h' m → News h₀ L h' news → Q (.int (bEnd x i : Nat) t) { s with heap := h', toks := tk' } := by
  subst hki
  intro dp un gd cn cs a ccd cl outer A₀ base h₀ L m news s Q E B F X N T hk hd hu hret
  refine wpAny_call ?_
  (k_dflt cell_enter)
  k_steps
  exact hret _ _ _ (by assumption) (cb_drop (by assumption) (fun p hp => List.mem_cons_of_mem _ (List.mem_cons_of_mem _ hp)))
end
end
local macro_rules | `(tactic| walk_at "getMethod ref") => `(tactic| (k_here; (with_reducible show wpAny _ _ (getMethod (Value.ref _) (PySem.Str.ofString "match") _) _ _ _); k_dflt (refine' getMethod_pat (g := 0) ?I ?F slot_match type_match ?_; (case I => first | exact pat_ows (by k_asm) | exact pat_tok (by k_asm) | exact pat_qs (by k_asm) | exact pat_proto (by k_asm)); (case F => k_asm); k_whole)))
local macro_rules | `(tactic| walk_at "getMethod ref") => `(tactic| (k_here; (with_reducible show wpAny _ _ (getMethod (Value.ref _) (PySem.Str.ofString "end") _) _ _ _); k_dflt (refine' getMethod_mt ?N ?h slot_end type_end ?_; (case N => k_asm); (case h => k_mem); k_whole)))
local macro_rules | `(tactic| walk_at "getMethod ref") => `(tactic| (k_here; (with_reducible show wpAny _ _ (getMethod (Value.ref _) (PySem.Str.ofString "group") _) _ _ _); k_dflt (refine' getMethod_mt ?N ?h slot_group type_group ?_; (case N => k_asm); (case h => k_mem); k_whole)))
local macro_rules | `(tactic| walk_at "call builtin:re.Match.end") => `(tactic| (k_here; k_dflt (refine' call_end ?N ?h ?t ?_; (case N => k_asm); (case h => k_mem); (case t => k_mem); k_whole); intro t9'))
local macro_rules | `(tactic| walk_at "call builtin:re.Match.group") => `(tactic| (k_here; k_dflt (refine' call_group0 ?N ?h ?t ?x ?_; (case N => k_asm); (case h => k_mem); (case t => k_mem); (case x => omega); k_whole); intro t9'))
local macro_rules | `(tactic| walk_at "call ref") => `(tactic| (k_here; (with_reducible show wpAny _ _ (call (Value.ref 72) [_, _]) _ _ _); k_dflt (refine' Cx.use (c_ows _ _ _ _ _ ?e0 ?e ?g) ?B ?F ?X ?N ?T ?hk ?hd ?hu ?_; (case e0 => first | (with_reducible exact rfl) | exact (Int.natCast_add _ 1).symm | exact (rfl : (0 : Int) = ((0 : Nat) : Int))); (case e => first | assumption | exact Nat.zero_le _ | omega); (case g => first | assumption | omega); (case B => k_asm); (case F => k_asm); (case X => k_asm); (case N => k_asm); (case T => k_asm); (case hk => first | exact rfl | assumption); (case hd => ktr_room); (case hu => ktr_units)); intro t9 h9 tk9 F9 N9; (try dsimp only)))
local macro_rules | `(tactic| walk_at "no such step") => `(tactic| fail "none")
theorem fresh08 : True := by
  w_top off
  trivial
section
section
local macro_rules | `(tactic| walk_at "setAttr ref") => `(tactic| (k_here; k_dflt (refine' set_exc_next ?F ?X ?N ?hn ?hde ?hl2 ?hc ?hm ?hh ?hs ?ht ?hl ?he ?hz ?_; (case F => k_asm); (case X => k_asm); (case N => k_asm); (case hn => exact rfl); (case hde => assumption); (case hl2 => assumption); (case hc => k_is); (case hm => exact rfl); (case hh => exact rfl); (case hs => k_is); (case ht => k_is); (case hl => k_get); (case he => k_put); (case hz => exact Nat.le_of_ble_eq_true rfl); k_whole); intro h' F' N'; (try k_sweep); refine Hold.out ?_))
local macro_rules | `(tactic| walk_at "setAttr ref") => `(tactic| (k_here; k_dflt (refine' set_exc_first ?F ?X ?N ?hn ?hf ?hl2 ?hc ?hm ?hh ?hs ?ht ?_; (case F => k_asm); (case X => k_asm); (case N => k_asm); (case hn => exact rfl); (case hf => exact fun _ => rfl); (case hl2 => assumption); (case hc => k_is); (case hm => exact rfl); (case hh => exact rfl); (case hs => k_is); (case ht => k_is); k_whole); intro h' d' F' N' n1 n2; (try k_sweep); refine Hold.out ?_))
theorem inst_exc {h₀ h : Heap} {L e d : Addr} {eo od : Obj} {l : List (Addr × Obj)} (N : News h₀ L h ((e, eo) :: (d, od) :: l)) (hc : eo.cls = .ref 50) (hn : notCls eo = true) (hd : eo.dict = some d) : InstAt h e eo 50 (some od) :=
  ⟨(N _ (List.mem_cons_self ..)).1, hc, hn, by rw [hd]; exact (N _ (List.mem_cons_of_mem _ (List.mem_cons_self ..))).1⟩
theorem inst_exc1 {h₀ h : Heap} {L e d so : Addr} {eo od oo : Obj} {l : List (Addr × Obj)} (N : News h₀ L h ((so, oo) :: (e, eo) :: (d, od) :: l)) (hc : eo.cls = .ref 50) (hn : notCls eo = true) (hd : eo.dict = some d) : InstAt h e eo 50 (some od) :=
  inst_exc (fun p hp => N p (List.mem_cons_of_mem _ hp)) hc hn hd
/-- what the walk of super() asks of the program -/
def ProgOk (prog : Program) : Prop := ((prog.main.file : Str) == Str.ofString "/claim/cut.py") = true ∧ (prog.main.scope.names.lookup ("super" : Str)).isSome = false
theorem c_make {prog : Program} {w : World} {p : Program} {loose : List Str} {mean : ExcName → Option Value} {mg mb : Str → Option Value}
  (hpp : ProgOk prog) (nm er x : Str) (t1 t2 tx : Tok) (k : Int) (ti : Tok) (hnm : nm.length ≤ 100) (her : er.length ≤ 100) (hk0 : 0 ≤ k) (hk1 : k ≤ 1000) :
  Cx prog w p loose mean mg mb 3 [.str nm t1, .str er t2, .str x tx, .int k ti] 50 fun h₀ L m news s Q E =>
   ∀ (e d : Addr) (es : List DictEntry) (n : Nat) (t : Addr) (h' : Heap) (tk' : Nat), Fr h₀ L h' m → News h₀ L h' ((e, excObj (some d) t) :: (d, dictOf es n) :: news) → (∀ p ∈ (d, dictOf es n) :: news, p.1 ≠ e) → getL "pos" es = some (some (.int k ti)) → Q (.ref e) { s with heap := h', toks := tk' } := by
  intro dp un gd cn cs a ccd cl outer A₀ base h₀ L m news s Q E B F X N T hk hd hu hret
  refine call_exc50 X F N (by show (4 : Nat) ≤ sizeLine; decide) fun h1 e t F1 N1 ne1 => ?_
  refine wpAny_call ?_
  k_dflt (refine' ks_code_super ?k1 ?k2 ?k3 ?k4 ?k5 ?kA ?kF ?kK ?k6 ?k7 ?k8 ?k9 ?kB ?_ ?c1 ?c2 ?c3 ?c4; (case kA => exact rfl); (case kF => exact rfl); (case kK => assumption); (case k1 => k_asm); (case k2 => k_asm); (case k3 => k_asm); (case k4 => k_asm); (case k5 => k_asm); (case k6 => k_is); (case k7 => k_is); (case k8 => ktr_room); (case k9 => exact BindsTo.of_eq rfl); (case kB => exact locs rfl); (case c1 => decide); (case c2 => exact rfl); (case c3 => exact rfl); (case c4 => exact rfl); intro g' L' h' FG' F' N' B' X' T' l1; (try k_lt l1); (try dsimp only); (try k_lift B'))
  refine ks_wpAt_execs_cons (wpAt_of_wpAny ?_)
  k_steps
  refine Hold.mk (ks_wpAt_execs_cons (wpAt_of_wpAny ?_))
  k_steps
  refine Hold.mk (ks_wpAt_execs_cons (wpAt_of_wpAny ?_))
  k_steps
  refine Hold.mk (ks_wpAt_execs_cons (wpAt_of_wpAny ?_))
  k_steps
  refine Hold.mk (ks_wpAt_execs_cons (ks_wpAt_Expr_any (ks_wpAt_MethodCall ?_)))
  k_dflt (refine ks_node (by k_asm) (by k_asm) (by k_asm) (by k_asm) (by k_is) (by rfl) (by rfl) (inst_exc (by k_asm) rfl rfl rfl) (by k_is) (by rfl) hpp.1 (by k_is) (by k_is) (by k_is) (by k_is) (by decide) (by rfl) (by rfl) (by rfl) (by rfl) hpp.2 (by first | boot_by_name | rfl | kernel_rfl) ?_)
  intro so h2 F2 N2 l2
  k_dflt (refine' super_init ?F ?X ?N (so := so) ?hso ?I ?ho ?hc ?hm ?hne ?_; (case F => k_asm); (case X => k_asm); (case N => k_asm); (case hso => k_mem); (case I => exact inst_exc1 (by k_asm) rfl rfl rfl); (case ho => k_is); (case hc => k_is); (case hm => exact rfl))
  · rintro rfl
    obtain ⟨nm, q, bs, sn, sub, ab, col, dd, k0, k1, k2, k3, k5, hC⟩ := cls50 X'
    have h50 := (N2 _ (List.mem_cons_of_mem _ (List.mem_cons_self ..))).2.2
    rw [hC] at h50
    cases h50
  intro mw h3 F3 N3 l3
  dsimp only
  k_dflt (refine callWith_wrap N3 (List.mem_cons_self ..) ?_)
  k_steps
  · exact (N3 _ (List.mem_cons_self ..)).1
  rename e ≠ _ => nde
  have e1 : so ≠ e := Nat.ne_of_gt (l2 _ (List.mem_cons_self ..))
  have e2 : mw ≠ e := Nat.ne_of_gt (l3 _ (List.mem_cons_of_mem _ (List.mem_cons_self ..)))
  k_dflt (refine' call_wrap (e := e) (mw := mw) (pre := [(mw, wrapObj e), (so, ks_superObj 50 e 50)]) F3 N3 X' ?h1 ?h2 (List.mem_cons_self ..) ?_)
  · intro p hp
    rcases List.mem_cons.mp hp with rfl | hp
    · exact e2
    · rw [List.mem_singleton.mp hp]; exact e1
  · intro p hp
    rcases List.mem_cons.mp hp with rfl | hp
    · exact fun q => nde q.symm
    · exact ne1 p hp
  intro h4 t' F4 N4 m1 m2 m3
  dsimp only [List.cons_append, List.nil_append] at N4
  k_steps
  have key : ∀ (d : Addr) (es : List DictEntry) (n : Nat) (x1 x2 x3 x4 : Addr × Obj) (t : Addr) (hh : Heap) (tk : Nat), Fr h₀ L hh m → News h₀ L hh (x1 :: x2 :: x3 :: (e, excObj (some d) t) :: (d, dictOf es n) :: x4 :: news) → e ≠ d → getL "pos" es = some (some (.int k ti)) →
      Q (.ref e) { s with heap := hh, toks := tk } := fun d es n x1 x2 x3 x4 t hh tk F N ne g =>
    hret e d es n t hh tk F (cb_drop N (fun p hp => by
      rcases List.mem_cons.mp hp with rfl | hp
      · exact List.mem_cons_of_mem _ (List.mem_cons_of_mem _ (List.mem_cons_of_mem _ (List.mem_cons_self ..)))
      · rcases List.mem_cons.mp hp with rfl | hp
        · exact List.mem_cons_of_mem _ (List.mem_cons_of_mem _ (List.mem_cons_of_mem _ (List.mem_cons_of_mem _ (List.mem_cons_self ..))))
        · exact List.mem_cons_of_mem _ (List.mem_cons_of_mem _ (List.mem_cons_of_mem _ (List.mem_cons_of_mem _ (List.mem_cons_of_mem _ (List.mem_cons_of_mem _ hp))))))) (fun p hp => by
      rcases List.mem_cons.mp hp with rfl | hp
      · exact ne.symm
      · exact ne1 p (List.mem_cons_of_mem _ hp)) g
  rename Fr h₀ L _ _ => kF1
  rename News h₀ L _ _ => kN1
  exact key _ _ _ _ _ _ _ _ _ _ kF1 kN1 nde rfl
end
end
local macro_rules | `(tactic| walk_at "call ref") => `(tactic| (k_here; (with_reducible show wpAny _ _ (call (Value.ref 50) [_, _, _, _]) _ _ _); k_dflt (refine' Cx.use (c_make ?pp _ _ _ _ _ _ _ _ ?a1 ?a2 ?a3 ?a4) ?B ?F ?X ?N ?T ?hk ?hd ?hu ?_; (case pp => assumption); (case a1 => first | assumption | decide); (case a2 => first | assumption | decide); (case a3 => omega); (case a4 => omega); (case B => k_asm); (case F => k_asm); (case X => k_asm); (case N => k_asm); (case T => k_asm); (case hk => first | exact rfl | assumption); (case hd => ktr_room); (case hu => ktr_units)); intro e9 d9 es9 n9 t9 h9 tk9 F9 N9 ne9 g9; (try dsimp only)))
local macro_rules | `(tactic| walk_at "exec Raise some none") => `(tactic| (k_here; (with_reducible show wpAny _ _ (exec (Stmt.Raise (some (Expr.Call (Expr.Name (PySem.Str.ofString "InvalidHeaderFormat") _) _ _ _)) none _) _) _ _ _); k_dflt (refine' raise_own50 ?_ ?hh; (case hh => exact rfl))))
local macro_rules | `(tactic| walk_at "no such step") => `(tactic| fail "none")
theorem fresh09 : True := by
  w_top off
  trivial
section
/-- a contract whose call may raise -/
abbrev CxE (prog : Program) (w : World) (p : Program) (loose : List Str) (mean : ExcName → Option Value) (mg mb : Str → Option Value)
   (k : Nat) (vs : List Value) (f : Addr) (P : (base h₀ : Heap) → (L : Addr) → (m : Str → Option Value) → (l : List Env) → (news : List (Addr × Obj)) → (s : Shared) → (Q E : Value → Shared → Prop) → Prop) : Prop :=
  ∀ (dp un : Nat) (gd : Option (List Code)) (cn : Str) (cs : Scope) (a : Addr) (ccd : Value) (cl : List (Str × Addr)) (outer : List Env) (A₀ : Around) (base h₀ : Heap) (L : Addr) (m : Str → Option Value)
    (news : List (Addr × Obj)) (s : Shared) (Q E : Value → Shared → Prop),
    Below A₀ base outer h₀ → Fr h₀ L s.heap m → (hd.heap_39 w.params).In h₀ → News h₀ L s.heap news → Top p loose mean mg mb h₀ → cs.kind = .function →
    dp + k < recursionLimit → un + 8 * k < cLine → P base h₀ L m (envX cn cs L a ccd cl :: outer) news s Q E →
      wpAny (model prog w) (ktrTop dp un gd cn cs L a ccd cl outer) (call (.ref f) vs) Q E s
theorem CxE.use {prog : Program} {w : World} {p : Program} {loose : List Str} {mean : ExcName → Option Value} {mg mb : Str → Option Value} {k : Nat} {vs : List Value} {f : Addr} {P : (base h₀ : Heap) → (L : Addr) → (m : Str → Option Value) → (l : List Env) → (news : List (Addr × Obj)) → (s : Shared) → (Q E : Value → Shared → Prop) → Prop}
  {dp un : Nat} {gd : Option (List Code)} {cn : Str} {cs : Scope} {a : Addr} {ccd : Value} {cl : List (Str × Addr)} {outer : List Env} {A₀ : Around} {base h₀ : Heap} {L : Addr} {m : Str → Option Value} {news : List (Addr × Obj)} {s : Shared} {Q E : Value → Shared → Prop}
    (c : CxE prog w p loose mean mg mb k vs f P) (B : Below A₀ base outer h₀) (F : Fr h₀ L s.heap m) (X : (hd.heap_39 w.params).In h₀) (N : News h₀ L s.heap news) (T : Top p loose mean mg mb h₀) (hk : cs.kind = .function)
    (hd : dp + k < recursionLimit) (hu : un + 8 * k < cLine) (h : P base h₀ L m (envX cn cs L a ccd cl :: outer) news s Q E) : wpAny (model prog w) (ktrTop dp un gd cn cs L a ccd cl outer) (call (.ref f) vs) Q E s :=
  c _ _ _ _ _ _ _ _ _ _ _ _ _ _ _ _ _ _ B F X N T hk hd hu h
section
variable {prog : Program} {w : World} {A : Around} {E : Value → Shared → Prop} {s : Shared} {h₀ : Heap} {L : Addr} {m : Str → Option Value} {news : List (Addr × Obj)}
theorem tok_call {k : Int} {i : Nat} {x : Str} {t u : Tok} {Q : Value → Shared → Prop} (hki : k = i) (X : (hd.heap_39 w.params).In h₀) (F : Fr h₀ L s.heap m) (N : News h₀ L s.heap news) (hi : i ≤ x.length) (hx : x.length ≤ 1000)
    (hyes : ∀ h' M T, (i : Int) < (wEnd x i : Nat) → Fr h₀ L h' m → News h₀ L h' ((M, matchObj x t 77 i x.length (-1) T) :: (T, tupObj [rawInt i, rawInt (wEnd x i)]) :: news) → (∀ p ∈ news, p.1 < T) → T < M → Q (.ref M) { s with heap := h' })
    (hno : (wEnd x i : Int) = i → Q .none s) :
    wpAny (model prog w) A (call (.builtin "re.Pattern.match") [.ref 77, .str x t, .int k u]) Q E s := by
  subst hki
  have hm := OneRun.match tok_one (text := x.cps) (pos := i) (lim := x.length) hi (by omega)
  have ew : i + runLen x.cps isMark (x.length - i) i = wEnd x i := rfl
  by_cases hc : runLen x.cps isMark (x.length - i) i < 1
  · rw [if_pos hc] at hm
    exact call_match (k := 2) (res := none) (pat_tok X) F N hi (by omega) hm (by omega) (fun e he => by cases he) (fun _ => hno (by omega))
  · rw [if_neg hc, ew] at hm
    exact call_match (k := 4) (res := some (wEnd x i)) (pat_tok X) F N hi (by omega) hm (by omega) (fun e he h' M T F' N' l1 l2 => by cases he; exact hyes h' M T (by omega) F' N' l1 l2) (fun e => by cases e)
end
theorem lt_of_all {d : Addr} {l : List (Addr × Obj)} (h : AllLt d l) : ∀ p ∈ l, p.1 < d := by
  induction l with
  | nil => exact fun p hp => nomatch hp
  | cons a l ih =>
    intro p hp
    rcases List.mem_cons.mp hp with rfl | hp
    · exact h.1
    · exact ih h.2 p hp
theorem news_skip2 {h₀ h : Heap} {L : Addr} {a b c : Addr × Obj} {l : List (Addr × Obj)} (N : News h₀ L h (a :: b :: c :: l)) : News h₀ L h (a :: l) := fun p hp => by
  rcases List.mem_cons.mp hp with rfl | hp
  · exact N _ (List.mem_cons_self ..)
  · exact N p (List.mem_cons_of_mem _ (List.mem_cons_of_mem _ (List.mem_cons_of_mem _ hp)))
theorem raise_end {M : Model} {w : World} {A : Around} {s' : Shared} {base g : Heap} {outer : List Env} {L a e d : Addr} {m : Str → Option Value} {name : Str} {scope : Scope} {cd : Value} {news news' : List (Addr × Obj)} {t : Addr} {es : List DictEntry} {n : Nat} {k : Int} {tk : Tok} {E₁ E₂ : Value → Shared → Prop}
    (K : Below A base outer g) (F : Fr g L s'.heap m) (N : News g L s'.heap ((e, excObj (some d) t) :: (d, dictOf es n) :: news')) (hne : ∀ p ∈ (d, dictOf es n) :: news', p.1 ≠ e) (hp : getL "pos" es = some (some (.int k tk))) (X : (hd.heap_39 w.params).In g) (hs : ∀ p ∈ news, p ∈ news')
    (hQ : ∀ h', Flown base g outer e k news h' → E₁ (.ref e) { s' with heap := h' }) (hk : scope.kind = .function := by rfl) :
    RaisableX w (fun e s' => wpAny M (A.deeper (envOf name scope L a cd)) (leaving (envOf name scope L a cd) e) (fun _ s'' => E₁ e s'') E₂ s') (.ref e) s' :=
  ⟨e, _, _, rfl, (N _ (List.mem_cons_self ..)).1, rfl, rfl, rfl, X.keeps F.keep, leave_first K F N hne rfl rfl rfl rfl rfl hp (fun h' fl => hQ h' (fl.sub hs)) hk⟩
section
local macro_rules | `(tactic| walk_at "call builtin:re.Pattern.match") => `(tactic| (k_here; k_dflt (refine' tok_call rfl ?X ?F ?N ?a ?b ?yes ?no; (case X => k_asm); (case F => k_asm); (case N => k_asm); (case a => assumption); (case b => assumption)); (case' yes => k_whole; intro h' M' T' lt' F' N' l1 l2; (try k_lt l1); (try k_lt2 l2); (try k_sweep)); (case' no => k_whole; intro eq')))
theorem c_token {prog : Program} {w : World} {p : Program} {loose : List Str} {mean : ExcName → Option Value} {mg mb : Str → Option Value}
  (hpp : ProgOk prog) (x : Str) (tx : Tok) (k : Int) (i : Nat) (ti : Tok) (nm : Str) (tn : Tok) (hki : k = i) (hi : i ≤ x.length) (hx : x.length ≤ 1000) (hnm : nm.length ≤ 100) :
  CxE prog w p loose mean mg mb 4 [.str x tx, .int k ti, .str nm tn] 84 fun base h₀ L m l news s Q E =>
   (∀ (T : Addr) (h' : Heap) (tk' : Nat) (t1 t2 : Tok), (i : Int) < (wEnd x i : Nat) → Fr h₀ L h' m → News h₀ L h' ((T, tupObj [.str ⟨x.cps.extract i (wEnd x i)⟩ t1, .int (wEnd x i : Nat) t2]) :: news) → (∀ p ∈ news, p.1 < T) → Q (.ref T) { s with heap := h', toks := tk' }) ∧
   (((wEnd x i : Nat) : Int) = i → Owed base h₀ L m l news s E i) := by
  subst hki
  rintro dp un gd cn cs a ccd cl outer A₀ base h₀ L m news s Q E B F X N T hk hd hu ⟨hret, hexc⟩
  refine wpAny_call ?_
  (k_dflt cell_enter)
  k_steps
  · rename Fr _ _ _ _ => kF
    rename News _ _ _ _ => kN
    rename Below _ _ _ _ => kB
    rename getL _ _ = _ => kg
    refine raise_end kB kF kN ?_ kg ?_ (fun _ h => h) ?_
    · assumption
    · assumption
    · intro h' fl
      exact hexc (by assumption) _ _ _ _ (by assumption) fl
  · rename Fr h₀ _ _ _ => kF
    rename News h₀ _ _ _ => kN
    rename _ ∧ _ ∧ AllLt _ _ => kl
    exact hret _ _ _ _ _ (by assumption) kF (news_skip2 kN) (lt_of_all kl.2.2)
end
end
local macro_rules | `(tactic| walk_at "call ref") => `(tactic| (k_here; (with_reducible show wpAny _ _ (call (Value.ref 84) [_, _, _]) _ _ _); k_dflt (refine' CxE.use (c_token ?pp _ _ _ _ _ _ _ ?e0 ?e ?g ?gn) ?B ?F ?X ?N ?T ?hk ?hd ?hu ?_; (case pp => assumption); (case e0 => first | (with_reducible exact rfl) | exact (Int.natCast_add _ 1).symm | exact (rfl : (0 : Int) = ((0 : Nat) : Int))); (case e => first | assumption | exact Nat.zero_le _ | omega); (case g => first | assumption | omega); (case gn => first | assumption | decide); (case B => k_asm); (case F => k_asm); (case X => k_asm); (case N => k_asm); (case T => k_asm); (case hk => first | exact rfl | assumption); (case hd => ktr_room); (case hu => ktr_units)); refine And.intro (fun T9 h9 tk9 t9 t9' lt9 F9 N9 l9 => ?_) (fun eq9 => Hold.out ?_); (try k_lt l9); (try dsimp only)))
local macro_rules | `(tactic| walk_at "no such step") => `(tactic| fail "none")
theorem fresh10 : True := by
  w_top off
  trivial
section
theorem uEnd_tail {x : Str} {i : Nat} (h : i < wEnd x i) : uEnd x i = wEnd x i + tailLen x.cps x.length (wEnd x i) := by
  unfold uEnd tailLen
  rw [if_pos h]
  by_cases h1 : wEnd x i < x.length
  · rw [if_pos h1]
    by_cases h2 : (x.cps.getD (wEnd x i) 0 == 47) = true
    · rw [if_pos h2, h2]
      have e : wEnd x (wEnd x i + 1) = (wEnd x i + 1) + runLen x.cps isMark (x.length - (wEnd x i + 1)) (wEnd x i + 1) := rfl
      by_cases h3 : wEnd x i + 1 < wEnd x (wEnd x i + 1)
      · rw [if_pos h3, if_pos (by simp; omega)]
        omega
      · rw [if_neg h3, if_neg (by simp; omega)]
        rfl
    · rw [if_neg h2, if_neg (by simp; intro _ q; exact absurd (by simpa using q) h2)]
      rfl
  · rw [if_neg h1, if_neg (by simp; omega)]
    rfl
theorem uEnd_none {x : Str} {i : Nat} (h : ¬ i < wEnd x i) : uEnd x i = i := by
  unfold uEnd
  rw [if_neg h]
  have := wEnd_ge x i
  omega
theorem uEnd_wEnd (x : Str) (i : Nat) : wEnd x i ≤ uEnd x i := by
  by_cases h : i < wEnd x i
  · rw [uEnd_tail h]; omega
  · rw [uEnd_none h]; have := wEnd_ge x i; omega
section
variable {prog : Program} {w : World} {A : Around} {E : Value → Shared → Prop} {s : Shared} {h₀ : Heap} {L : Addr} {m : Str → Option Value} {news : List (Addr × Obj)}
theorem proto_call {k : Int} {i : Nat} {x : Str} {t u : Tok} {Q : Value → Shared → Prop} (hki : k = i) (X : (hd.heap_39 w.params).In h₀) (F : Fr h₀ L s.heap m) (N : News h₀ L s.heap news) (hi : i ≤ x.length) (hx : x.length ≤ 1000)
    (hyes : ∀ h' M T, (i : Int) < (uEnd x i : Nat) → Fr h₀ L h' m → News h₀ L h' ((M, matchObj x t 144 i x.length (-1) T) :: (T, tupObj [rawInt i, rawInt (uEnd x i)]) :: news) → (∀ p ∈ news, p.1 < T) → T < M → Q (.ref M) { s with heap := h' })
    (hno : (uEnd x i : Int) = i → Q .none s) :
    wpAny (model prog w) A (call (.builtin "re.Pattern.match") [.ref 144, .str x t, .int k u]) Q E s := by
  subst hki
  have hm := proto_match (text := x.cps) (pos := i) (lim := x.length) hi (by omega)
  have ew : i + runLen x.cps isMark (x.length - i) i = wEnd x i := rfl
  by_cases hc : runLen x.cps isMark (x.length - i) i < 1
  · rw [if_pos hc] at hm
    exact call_match (k := 2) (res := none) (pat_proto X) F N hi (by omega) hm (by omega) (fun e he => by cases he) (fun _ => hno (by rw [uEnd_none (by omega)]))
  · rw [if_neg hc, ew, ← uEnd_tail (by omega)] at hm
    have := uEnd_wEnd x i
    exact call_match (k := 40) (res := some (uEnd x i)) (pat_proto X) F N hi (by omega) hm (by omega) (fun e he h' M T F' N' l1 l2 => by cases he; exact hyes h' M T (by omega) F' N' l1 l2) (fun e => by cases e)
end
section
local macro_rules | `(tactic| walk_at "call builtin:re.Pattern.match") => `(tactic| (k_here; k_dflt (refine' proto_call rfl ?X ?F ?N ?a ?b ?yes ?no; (case X => k_asm); (case F => k_asm); (case N => k_asm); (case a => assumption); (case b => assumption)); (case' yes => k_whole; intro h' M' T' lt' F' N' l1 l2; (try k_lt l1); (try k_lt2 l2); (try k_sweep)); (case' no => k_whole; intro eq')))
theorem c_proto {prog : Program} {w : World} {p : Program} {loose : List Str} {mean : ExcName → Option Value} {mg mb : Str → Option Value}
  (hpp : ProgOk prog) (x : Str) (tx : Tok) (k : Int) (i : Nat) (ti : Tok) (nm : Str) (tn : Tok) (hki : k = i) (hi : i ≤ x.length) (hx : x.length ≤ 1000) (hnm : nm.length ≤ 100) :
  CxE prog w p loose mean mg mb 4 [.str x tx, .int k ti, .str nm tn] 151 fun base h₀ L m l news s Q E =>
   (∀ (T : Addr) (h' : Heap) (tk' : Nat) (t1 t2 : Tok), (i : Int) < (uEnd x i : Nat) → Fr h₀ L h' m → News h₀ L h' ((T, tupObj [.str ⟨x.cps.extract i (uEnd x i)⟩ t1, .int (uEnd x i : Nat) t2]) :: news) → (∀ p ∈ news, p.1 < T) → Q (.ref T) { s with heap := h', toks := tk' }) ∧
   (((uEnd x i : Nat) : Int) = i → Owed base h₀ L m l news s E i) := by
  subst hki
  rintro dp un gd cn cs a ccd cl outer A₀ base h₀ L m news s Q E B F X N T hk hd hu ⟨hret, hexc⟩
  refine wpAny_call ?_
  (k_dflt cell_enter)
  k_steps
  · rename Fr _ _ _ _ => kF
    rename News _ _ _ _ => kN
    rename Below _ _ _ _ => kB
    rename getL _ _ = _ => kg
    refine raise_end kB kF kN ?_ kg ?_ (fun _ h => h) ?_
    · assumption
    · assumption
    · intro h' fl
      exact hexc (by assumption) _ _ _ _ (by assumption) fl
  · rename Fr h₀ _ _ _ => kF
    rename News h₀ _ _ _ => kN
    rename _ ∧ _ ∧ AllLt _ _ => kl
    exact hret _ _ _ _ _ (by assumption) kF (news_skip2 kN) (lt_of_all kl.2.2)
end
end
local macro_rules | `(tactic| walk_at "call ref") => `(tactic| (k_here; (with_reducible show wpAny _ _ (call (Value.ref 151) [_, _, _]) _ _ _); k_dflt (refine' CxE.use (c_proto ?pp _ _ _ _ _ _ _ ?e0 ?e ?g ?gn) ?B ?F ?X ?N ?T ?hk ?hd ?hu ?_; (case pp => assumption); (case e0 => first | (with_reducible exact rfl) | exact (Int.natCast_add _ 1).symm | exact (rfl : (0 : Int) = ((0 : Nat) : Int))); (case e => first | assumption | exact Nat.zero_le _ | omega); (case g => first | assumption | omega); (case gn => first | assumption | decide); (case B => k_asm); (case F => k_asm); (case X => k_asm); (case N => k_asm); (case T => k_asm); (case hk => first | exact rfl | assumption); (case hd => ktr_room); (case hu => ktr_units)); refine And.intro (fun T9 h9 tk9 t9 t9' lt9 F9 N9 l9 => ?_) (fun eq9 => Hold.out ?_); (try k_lt l9); (try dsimp only)))
local macro_rules | `(tactic| walk_at "no such step") => `(tactic| fail "none")
theorem fresh11 : True := by
  w_top off
  trivial
section
theorem owed_next {M : Model} {A : Around} {E₁ E₂ : Value → Shared → Prop} {s : Shared} {base g : Heap} {outer : List Env} {L a : Addr} {m : Str → Option Value} {name : Str} {scope : Scope} {cd : Value} {news news' : List (Addr × Obj)} {k : Int}
    (K : Below A base outer g) (hs : ∀ p ∈ news, p ∈ news') (hE : ∀ e h' tk, Flown base g outer e k news h' → E₁ (.ref e) { s with heap := h', toks := tk }) :
    Owed base g L m (envOf name scope L a cd :: outer) news' s (fun e s' => wpAny M (A.deeper (envOf name scope L a cd)) (leaving (envOf name scope L a cd) e) (fun _ s'' => E₁ e s'') E₂ s') k :=
  fun e g' h' tk F R => leave_next (s' := { s with heap := h', toks := tk }) K F (R.sub hs) fun h'' fl => hE e h'' tk fl
theorem news_skip1 {h₀ h : Heap} {L : Addr} {a b : Addr × Obj} {l : List (Addr × Obj)} (N : News h₀ L h (a :: b :: l)) : News h₀ L h (a :: l) := fun p hp => by
  rcases List.mem_cons.mp hp with rfl | hp
  · exact N _ (List.mem_cons_self ..)
  · exact N p (List.mem_cons_of_mem _ (List.mem_cons_of_mem _ hp))
theorem c_option {prog : Program} {w : World} {p : Program} {loose : List Str} {mean : ExcName → Option Value} {mg mb : Str → Option Value}
  (hpp : ProgOk prog) (x : Str) (tx : Tok) (k : Int) (i : Nat) (ti : Tok) (nm : Str) (tn : Tok) (hki : k = i) (hi : i ≤ x.length) (hx : x.length ≤ 1000) (hnm : nm.length ≤ 100) :
  CxE prog w p loose mean mg mb 5 [.str x tx, .int k ti, .str nm tn] 132 fun base h₀ L m l news s Q E =>
   (∀ (T : Addr) (h' : Heap) (tk' : Nat) (t1 t2 : Tok), (i : Int) < (wEnd x i : Nat) → Fr h₀ L h' m → News h₀ L h' ((T, tupObj [.str ⟨x.cps.extract i (wEnd x i)⟩ t1, .int (wEnd x i : Nat) t2]) :: news) → (∀ p ∈ news, p.1 < T) → Q (.ref T) { s with heap := h', toks := tk' }) ∧
   (((wEnd x i : Nat) : Int) = i → Owed base h₀ L m l news s E i) := by
  subst hki
  rintro dp un gd cn cs a ccd cl outer A₀ base h₀ L m news s Q E B F X N T hk hd hu ⟨hret, hexc⟩
  refine wpAny_call ?_
  (k_dflt cell_enter)
  k_steps
  · rename Fr h₀ _ _ _ => kF
    rename News h₀ _ _ _ => kN
    rename _ ∧ AllLt _ _ => kl
    exact hret _ _ _ _ _ (by assumption) kF (news_skip1 kN) (lt_of_all kl.2)
  · exact Hold.mk (owed_next (by assumption) (fun _ h => h) (fun e h' tk fl => hexc (by assumption) e _ h' tk (by assumption) fl))
theorem c_subitem {prog : Program} {w : World} {p : Program} {loose : List Str} {mean : ExcName → Option Value} {mg mb : Str → Option Value}
  (hpp : ProgOk prog) (x : Str) (tx : Tok) (k : Int) (i : Nat) (ti : Tok) (nm : Str) (tn : Tok) (hki : k = i) (hi : i ≤ x.length) (hx : x.length ≤ 1000) (hnm : nm.length ≤ 100) :
  CxE prog w p loose mean mg mb 5 [.str x tx, .int k ti, .str nm tn] 165 fun base h₀ L m l news s Q E =>
   (∀ (T : Addr) (h' : Heap) (tk' : Nat) (t1 t2 : Tok), (i : Int) < (wEnd x i : Nat) → Fr h₀ L h' m → News h₀ L h' ((T, tupObj [.str ⟨x.cps.extract i (wEnd x i)⟩ t1, .int (wEnd x i : Nat) t2]) :: news) → (∀ p ∈ news, p.1 < T) → Q (.ref T) { s with heap := h', toks := tk' }) ∧
   (((wEnd x i : Nat) : Int) = i → Owed base h₀ L m l news s E i) := by
  subst hki
  rintro dp un gd cn cs a ccd cl outer A₀ base h₀ L m news s Q E B F X N T hk hd hu ⟨hret, hexc⟩
  refine wpAny_call ?_
  (k_dflt cell_enter)
  k_steps
  · rename Fr h₀ _ _ _ => kF
    rename News h₀ _ _ _ => kN
    rename _ ∧ AllLt _ _ => kl
    exact hret _ _ _ _ _ (by assumption) kF (news_skip1 kN) (lt_of_all kl.2)
  · exact Hold.mk (owed_next (by assumption) (fun _ h => h) (fun e h' tk fl => hexc (by assumption) e _ h' tk (by assumption) fl))
end
local macro_rules | `(tactic| walk_at "call ref") => `(tactic| (k_here; (with_reducible show wpAny _ _ (call (Value.ref 132) [_, _, _]) _ _ _); k_dflt (refine' CxE.use (c_option ?pp _ _ _ _ _ _ _ ?e0 ?e ?g ?gn) ?B ?F ?X ?N ?T ?hk ?hd ?hu ?_; (case pp => assumption); (case e0 => first | (with_reducible exact rfl) | exact (Int.natCast_add _ 1).symm | exact (rfl : (0 : Int) = ((0 : Nat) : Int))); (case e => first | assumption | exact Nat.zero_le _ | omega); (case g => first | assumption | omega); (case gn => first | assumption | decide); (case B => k_asm); (case F => k_asm); (case X => k_asm); (case N => k_asm); (case T => k_asm); (case hk => first | exact rfl | assumption); (case hd => ktr_room); (case hu => ktr_units)); refine And.intro (fun T9 h9 tk9 t9 t9' lt9 F9 N9 l9 => ?_) (fun eq9 => Hold.out ?_); (try k_lt l9); (try dsimp only)))
local macro_rules | `(tactic| walk_at "call ref") => `(tactic| (k_here; (with_reducible show wpAny _ _ (call (Value.ref 165) [_, _, _]) _ _ _); k_dflt (refine' CxE.use (c_subitem ?pp _ _ _ _ _ _ _ ?e0 ?e ?g ?gn) ?B ?F ?X ?N ?T ?hk ?hd ?hu ?_; (case pp => assumption); (case e0 => first | (with_reducible exact rfl) | exact (Int.natCast_add _ 1).symm | exact (rfl : (0 : Int) = ((0 : Nat) : Int))); (case e => first | assumption | exact Nat.zero_le _ | omega); (case g => first | assumption | omega); (case gn => first | assumption | decide); (case B => k_asm); (case F => k_asm); (case X => k_asm); (case N => k_asm); (case T => k_asm); (case hk => first | exact rfl | assumption); (case hd => ktr_room); (case hu => ktr_units)); refine And.intro (fun T9 h9 tk9 t9 t9' lt9 F9 N9 l9 => ?_) (fun eq9 => Hold.out ?_); (try k_lt l9); (try dsimp only)))
theorem fresh12 : True := by
  w_top off
  trivial
section
/-- the names that a loop turns, over what stands -/
abbrev two (a b : Str) (av : Value) (bv : Option Value) (m₀ : Str → Option Value) : Str → Option Value := fun y => if y = a then some av else if y = b then bv else m₀ y
theorem two_init {a b : Str} {av : Value} {m : Str → Option Value} (h : m a = some av) : m = two a b av (m b) m := by
  funext y
  unfold two
  split
  · rename_i e; rw [e, h]
  · split
    · rename_i e; rw [e]
    · rfl
section
variable {prog : Program} {w : World} {A : Around} {E : Value → Shared → Prop} {Q : Flow → Shared → Prop} {s : Shared} {env : Env} {h₀ : Heap} {L : Addr}
def LSt (h₀ : Heap) (L : Addr) (s : Shared) (J : (Str → Option Value) → List (Addr × Obj) → Prop) (s₃ : Shared) : Prop :=
  ∃ m' nx' h' tk', s₃ = { s with heap := h', toks := tk' } ∧ Fr h₀ L h' m' ∧ News h₀ L h' nx' ∧ J m' nx'
def LOne (h₀ : Heap) (L : Addr) (s : Shared) (J X : (Str → Option Value) → List (Addr × Obj) → Prop) (Q : Flow → Shared → Prop) (f : Flow) (s₃ : Shared) : Prop :=
  match f with
  | .next | .cont => LSt h₀ L s J s₃
  | .brk => LSt h₀ L s X s₃
  | .ret v => Q (.ret v) s₃
theorem LSt.of {J : (Str → Option Value) → List (Addr × Obj) → Prop} {m' : Str → Option Value} {nx nx' : List (Addr × Obj)} {h' : Heap} {tk' : Nat} (F : Fr h₀ L h' m') (N : News h₀ L h' nx') (hs : ∀ p ∈ nx, p ∈ nx') (h : J m' nx) : LSt h₀ L s J { s with heap := h', toks := tk' } :=
  ⟨m', nx, h', tk', rfl, F, fun p hp => N p (hs p hp), h⟩
theorem while_brk {test : Expr} {body : List Stmt} {pos : Pos} {m : Str → Option Value} {news : List (Addr × Obj)} {n₀ : Nat} (J : Nat → (Str → Option Value) → List (Addr × Obj) → Prop) (X : (Str → Option Value) → List (Addr × Obj) → Prop)
    (F : Fr h₀ L s.heap m) (N : News h₀ L s.heap news) (hJ : J n₀ m news)
    (turn : ∀ n m₁ nx h tk, J n m₁ nx → Fr h₀ L h m₁ → News h₀ L h nx →
      wpAny (model prog w) A (isTrue test env (eval test env)) (fun b s₂ => if b = true then wpAny (model prog w) A (execs body env) (LOne h₀ L s (fun m' nx' => ∃ n', n' < n ∧ J n' m' nx') X Q) E s₂ else LSt h₀ L s X s₂) E { s with heap := h, toks := tk })
    (exit : ∀ m₁ nx h tk, X m₁ nx → Fr h₀ L h m₁ → News h₀ L h nx → Q .next { s with heap := h, toks := tk })
    (hE : PassesOwn (model prog w) A env E := by passes_own) :
    wpAny (model prog w) A (exec (.While test body [] pos) env) Q E s := by
  refine While_inv2 J F N hJ ?_ hE
  intro n m₁ nx h tk F₁ N₁ hj
  refine wpAny_mono (turn n m₁ nx h tk hj F₁ N₁) (fun b s₂ q => ?_) fun _ _ x => x
  cases b with
  | false =>
    simp only [Bool.false_eq_true, if_false] at q ⊢
    obtain ⟨m', nx', h', tk', rfl, F', N', hx⟩ := q
    exact exit m' nx' h' tk' hx F' N'
  | true =>
    simp only [if_true] at q ⊢
    refine wpAny_mono q (fun f s₃ r => ?_) fun _ _ x => x
    cases f with
    | next => obtain ⟨m', nx', h', tk', rfl, F', N', n', hn, hj'⟩ := r; exact ⟨h', tk', m', nx', n', rfl, F', N', hn, hj'⟩
    | cont => obtain ⟨m', nx', h', tk', rfl, F', N', n', hn, hj'⟩ := r; exact ⟨h', tk', m', nx', n', rfl, F', N', hn, hj'⟩
    | brk => obtain ⟨m', nx', h', tk', rfl, F', N', hx⟩ := r; exact exit m' nx' h' tk' hx F' N'
    | ret v => exact r
/-- for over a range: the turns counted down, the place counted up -/
theorem for_range {x : Str} {body : List Stmt} {r : Addr} {b₀ : Int} {t₀ u₀ v₀ : Tok} {n : Nat} {m₀ : Str → Option Value} {news : List (Addr × Obj)} (J : Nat → (Str → Option Value) → List (Addr × Obj) → Prop)
    (hh : A.handled = none) (hr : IsRange s.heap r 0 b₀ 1 t₀ u₀ v₀) (hsmall : Builtin.Range.small 0 b₀ 1 = true) (hn : Builtin.Range.rangeSize 0 b₀ 1 = (n : Int)) (F : Fr h₀ env.locals s.heap m₀) (N : News h₀ env.locals s.heap news) (hJ : J 0 m₀ news)
    (turn : ∀ i t I it m nx h tk, i < n → J i m nx → (∀ p ∈ news, p.1 < I) → Fr h₀ env.locals h (fun y => if y = x then some (.int (i : Int) t) else m y) → News h₀ env.locals h ((I, it) :: nx) →
      wpAny (model prog w) A (execs body env) (fun f s₂ => match f with
        | .ret v => Q (.ret v) s₂
        | .brk => Q .next s₂
        | _ => ∃ h' tk m' nx', s₂ = { s with heap := h', toks := tk } ∧ Fr h₀ env.locals h' m' ∧ News h₀ env.locals h' ((I, it) :: nx') ∧ (∀ p ∈ nx', p.1 ≠ I) ∧ J (i + 1) m' nx') E { s with heap := h, toks := tk })
    (exit : ∀ m nx h tk, J n m nx → Fr h₀ env.locals h m → News h₀ env.locals h nx → Q .next { s with heap := h, toks := tk }) :
    wpAny (model prog w) A (pyIter (.ref r)) (fun it s₂ => LoopAtV prog w A h₀ env x body Q E it s₂) E s := by
  refine iter_rangeUnr hh hr hsmall hn F N fun I lI => ?_
  have key : ∀ k i m nx, i + k = n → J i m nx → RangeRest prog w A E h₀ env x body Q s I 0 n k i m nx := by
    intro k
    induction k with
    | zero =>
      intro i m nx hi hj
      refine RangeRest.zero fun h tk F' N' => ?_
      have : i = n := by omega
      subst this
      exact exit m nx h tk hj F' N'
    | succ k ih =>
      intro i m nx hi hj
      refine RangeRest.succ fun t h tk F' N' => ?_
      rw [Int.zero_add] at F'
      refine wpAny_mono (turn i t I _ m nx h tk (by omega) hj lI F' N') (fun f s₂ q => ?_) fun _ _ x => x
      cases f with
      | ret v => exact q
      | brk => exact q
      | next => obtain ⟨h', tk', m', nx', rfl, F2, N2, ho, hj'⟩ := q; exact ⟨h', tk', m', nx', rfl, F2, N2, ho, ih (i + 1) m' nx' (by omega) hj'⟩
      | cont => obtain ⟨h', tk', m', nx', rfl, F2, N2, ho, hj'⟩ := q; exact ⟨h', tk', m', nx', rfl, F2, N2, ho, ih (i + 1) m' nx' (by omega) hj'⟩
  exact key n 0 m₀ news (by omega) hJ
end
end
theorem fresh13 : True := by
  w_top off
  trivial
section
/-- what a header of items reads as: the items, or the place of the fault -/
def rdF (wend : Nat → Nat) (x : Str) : Nat → Nat → List Str → Except Nat (List Str)
  | 0, i, _ => .error i
  | n + 1, i, acc =>
    if wend i = i then .error i
    else if bEnd x (wend i) = x.length then .ok (acc ++ [⟨x.cps.extract i (wend i)⟩])
    else if x.cps.getD (bEnd x (wend i)) 0 = 44 then
      (if cEnd x (bEnd x (wend i)) = x.length then .ok (acc ++ [⟨x.cps.extract i (wend i)⟩]) else rdF wend x n (cEnd x (bEnd x (wend i))) (acc ++ [⟨x.cps.extract i (wend i)⟩]))
    else .error (bEnd x (wend i))
def readR (wend : Nat → Nat) (x : Str) : Except Nat (List Str) := rdF wend x (x.length + 1) (cEnd x 0) []
/-- the loop of parse_list, at a turn's head -/
def PlJ (wend : Nat → Nat) (x : Str) (m₀ : Str → Option Value) (lA : Addr) (news : List (Addr × Obj)) (n : Nat) (m : Str → Option Value) (nx : List (Addr × Obj)) : Prop :=
  ∃ (j : Nat) (t : Tok) (iv : Option Value) (its : Array Value) (k : Nat) (ws : List Str), m = two "pos" "item" (.int j t) iv m₀ ∧ nx = (lA, listOf its k) :: news ∧ StrsAre its ws ∧ ws.length ≤ j ∧ j ≤ x.length ∧ x.length < n + j ∧ rdF wend x n j ws = readR wend x
def PlX (wend : Nat → Nat) (x : Str) (m₀ : Str → Option Value) (lA : Addr) (news : List (Addr × Obj)) (m : Str → Option Value) (nx : List (Addr × Obj)) : Prop :=
  ∃ (j : Nat) (t : Tok) (iv : Option Value) (its : Array Value) (k : Nat) (ws : List Str), m = two "pos" "item" (.int j t) iv m₀ ∧ nx = (lA, listOf its k) :: news ∧ StrsAre its ws ∧ j = x.length ∧ readR wend x = .ok ws
section
variable {prog : Program} {w : World} {A : Around} {E : Value → Shared → Prop} {Q : Flow → Shared → Prop} {s : Shared} {env : Env} {h₀ : Heap} {L : Addr}
theorem pl_loop {test : Expr} {body : List Stmt} {pos : Pos} {m : Str → Option Value} {lA : Addr} {news : List (Addr × Obj)} {t : Tok} (wend : Nat → Nat) (x : Str) (F : Fr h₀ L s.heap m) (N : News h₀ L s.heap ((lA, listOf #[] 0) :: news)) (hpos : m "pos" = some (.int (cEnd x 0 : Nat) t))
    (turn : ∀ n m₁ nx h tk, PlJ wend x m lA news n m₁ nx → Fr h₀ L h m₁ → News h₀ L h nx →
      wpAny (model prog w) A (isTrue test env (eval test env)) (fun b s₂ => if b = true then wpAny (model prog w) A (execs body env) (LOne h₀ L s (fun m' nx' => ∃ n', n' < n ∧ PlJ wend x m lA news n' m' nx') (PlX wend x m lA news) Q) E s₂ else LSt h₀ L s (PlX wend x m lA news) s₂) E { s with heap := h, toks := tk })
    (exit : ∀ m₁ nx h tk, PlX wend x m lA news m₁ nx → Fr h₀ L h m₁ → News h₀ L h nx → Q .next { s with heap := h, toks := tk })
    (hE : PassesOwn (model prog w) A env E := by passes_own) :
    wpAny (model prog w) A (exec (.While test body [] pos) env) Q E s :=
  while_brk (n₀ := x.length + 1) (PlJ wend x m lA news) (PlX wend x m lA news) F N ⟨cEnd x 0, t, _, #[], 0, [], two_init hpos, rfl, StrsAre.nil, Nat.zero_le _, cEnd_le (Nat.zero_le _), by omega, rfl⟩ turn exit hE
end
theorem two3 {a b : Str} {A B C D : Value} {iv : Option Value} {m₀ : Str → Option Value} : (fun y => if y = a then some A else if y = a then some B else if y = b then some C else two a b D iv m₀ y) = two a b A (some C) m₀ := by
  funext y
  by_cases h1 : y = a
  · simp only [two, if_pos h1]
  · simp only [two, if_neg h1]
    by_cases h2 : y = b
    · simp only [if_pos h2]
    · simp only [if_neg h2]
theorem two4u {a b : Str} {A B C D I V : Value} {iv : Option Value} {m₀ : Str → Option Value} : upd (fun y => if y = a then some A else if y = a then some B else if y = a then some C else if y = b then some I else two a b D iv m₀ y) a V = two a b V (some I) m₀ := by
  funext y
  by_cases h1 : y = a
  · simp only [upd, two, if_pos h1]
  · simp only [upd, two, if_neg h1]
    by_cases h2 : y = b
    · simp only [if_pos h2]
    · simp only [if_neg h2]
end
theorem fresh14 : True := by
  w_top off
  trivial
section
theorem c_plist_conn {prog : Program} {w : World} {p : Program} {loose : List Str} {mean : ExcName → Option Value} {mg mb : Str → Option Value}
  (hpp : ProgOk prog) (x : Str) (tx : Tok) (ti : Tok) (nm : Str) (tn : Tok) (hx : x.length ≤ 1000) (hnm : nm.length ≤ 100) :
  CxE prog w p loose mean mg mb 6 [.ref 132, .str x tx, .int 0 ti, .str nm tn] 125 fun base h₀ L m l news s Q E =>
   (∀ (lA : Addr) (its : Array Value) (n : Nat) (ws : List Str) (h' : Heap) (tk' : Nat), readR (wEnd x) x = .ok ws → StrsAre its ws → Fr h₀ L h' m → News h₀ L h' ((lA, listOf its n) :: news) → (∀ p ∈ news, p.1 < lA) → Q (.ref lA) { s with heap := h', toks := tk' }) ∧
   (∀ k : Nat, readR (wEnd x) x = .error k → Owed base h₀ L m l news s E k) := by
  rintro dp un gd cn cs a ccd cl outer A₀ base h₀ L m news s Q E B F X N T hk hd hu ⟨hret, hexc⟩
  refine wpAny_call ?_
  (k_dflt cell_enter)
  k_steps
  refine Hold.mk (while_one (nm := "pos") (fun k => ∃ j : Nat, k = j ∧ j ≤ x.length ∧ cEnd x 0 = cEnd x j) (fun k => (x.length - k).toNat)
    (fun k => k = (cEnd x 0 : Nat)) (by assumption) (by assumption) rfl ⟨0, rfl, Nat.zero_le _, rfl⟩ (fun k t h tk hP F1 N1 => ?_) (fun k t h tk hX F1 N1 => ?_))
  · obtain ⟨j, rfl, h2, h3⟩ := hP
    k_steps
    all_goals first
      | exact WOut.of (by assumption) (by assumption) (fun _ h => h) (by rw [h3, cEnd_stop (fun hh => by omega)])
      | exact WOut.of (by assumption) (by assumption) (fun _ h => h) (by rw [h3, cEnd_stop (fun hh => comma_no (by assumption) (by assumption) hh.2)])
      | (refine WOne.of (by assumption) (by assumption) (fun _ h => h) ⟨bEnd x (j + 1), rfl, bEnd_le (by omega), by rw [h3, cEnd_comma (by omega) (comma_yes (by assumption) (by assumption))]⟩ ?_
         have := bEnd_ge x (j + 1); have := bEnd_le (x := x) (i := j + 1) (by omega); omega)
  · subst hX
    have hc0 := cEnd_le (x := x) (i := 0) (Nat.zero_le _)
    k_steps
    rename Fr _ _ _ _ => kF
    rename News _ _ _ _ => kN
    refine Hold.mk (pl_loop (wEnd x) x kF kN rfl ?_ ?_)
    · intro n m₁ nx h tk hJ F1 N1
      obtain ⟨j, t, iv, its, k, ws, rfl, rfl, hS, hw, hj, hn, hR⟩ := hJ
      obtain ⟨n', rfl⟩ : ∃ n', n = n' + 1 := ⟨n - 1, by omega⟩
      have hsz := hS.size
      have hw1 := wEnd_ge x j
      have hw2 := wEnd_le hj
      have hb1 := bEnd_ge x (wEnd x j)
      have hb2 := bEnd_le hw2
      k_steps
      · rename Fr _ _ _ _ => kF
        rename News _ _ _ _ => kN
        exact LSt.of kF kN (fun p hp => List.mem_cons_of_mem _ hp) ⟨bEnd x (wEnd x j), _, _, _, _, _, two3, rfl, hS.push _ _, by omega, by rw [← hR]; unfold rdF; rw [if_neg (by omega), if_pos (by omega)]⟩
      · have hcm := comma_yes (by assumption) (by assumption)
        have hc1 := cEnd_comma (by omega) hcm
        have hb3 := bEnd_ge x (bEnd x (wEnd x j) + 1)
        have hb4 := bEnd_le (x := x) (i := bEnd x (wEnd x j) + 1) (by omega)
        have hc2 := cEnd_le (x := x) (i := bEnd x (wEnd x j)) (by omega)
        rename Fr _ _ _ _ => kF
        rename News _ _ _ _ => kN
        refine Hold.mk (while_one (nm := "pos") (fun k => ∃ i : Nat, k = i ∧ bEnd x (wEnd x j) < i ∧ i ≤ x.length ∧ cEnd x (bEnd x (wEnd x j)) = cEnd x i) (fun k => (x.length - k).toNat)
          (fun k => k = (cEnd x (bEnd x (wEnd x j)) : Nat)) kF kN rfl ⟨bEnd x (bEnd x (wEnd x j) + 1), rfl, by omega, hb4, hc1⟩ (fun k t h tk hP F1 N1 => ?_) (fun k t h tk hX F1 N1 => ?_))
        · obtain ⟨i, rfl, h1, h2, h3⟩ := hP
          k_steps
          all_goals first
            | exact WOut.of (by assumption) (by assumption) (fun _ h => h) (by rw [h3, cEnd_stop (fun hh => by omega)])
            | exact WOut.of (by assumption) (by assumption) (fun _ h => h) (by rw [h3, cEnd_stop (fun hh => comma_no (by assumption) (by assumption) hh.2)])
            | (refine WOne.of (by assumption) (by assumption) (fun _ h => h) ⟨bEnd x (i + 1), rfl, ?_, bEnd_le (by omega), by rw [h3, cEnd_comma (by omega) (comma_yes (by assumption) (by assumption))]⟩ ?_
               · have := bEnd_ge x (i + 1); omega
               · have := bEnd_ge x (i + 1); have := bEnd_le (x := x) (i := i + 1) (by omega); omega)
        · subst hX
          have hc3 : bEnd x (wEnd x j) < cEnd x (bEnd x (wEnd x j)) := by rw [hc1]; have := cEnd_ge x (bEnd x (bEnd x (wEnd x j) + 1)); omega
          k_steps
          · rename Fr _ _ _ _ => kF
            rename News _ _ _ _ => kN
            exact LSt.of kF kN (fun p hp => List.mem_cons_of_mem _ hp) ⟨cEnd x (bEnd x (wEnd x j)), _, _, _, _, _, two4u, rfl, hS.push _ _, by omega, by rw [← hR]; unfold rdF; rw [if_neg (by omega), if_neg (by omega), if_pos hcm, if_pos (by omega)]⟩
          · rename Fr _ _ _ _ => kF
            rename News _ _ _ _ => kN
            exact LSt.of kF kN (fun p hp => List.mem_cons_of_mem _ hp) ⟨n', by omega, cEnd x (bEnd x (wEnd x j)), _, _, _, _, _, two4u, rfl, hS.push _ _, by rw [List.length_append, List.length_singleton]; omega, hc2, by omega, by rw [← hR]; conv => rhs; unfold rdF; rw [if_neg (by omega), if_neg (by omega), if_pos hcm, if_neg (by omega)]⟩
      · rename Fr _ _ _ _ => kF
        rename News _ _ _ _ => kN
        rename Below _ _ _ _ => kB
        rename getL _ _ = _ => kg
        refine raise_end kB kF kN ?_ kg ?_ (fun p hp => List.mem_cons_of_mem _ (List.mem_cons_of_mem _ hp)) ?_
        · assumption
        · assumption
        · intro h' fl
          exact hexc (bEnd x (wEnd x j)) (by rw [← hR]; unfold rdF; rw [if_neg (by omega), if_neg (by omega), if_neg (comma_no (by assumption) (by assumption))]) _ _ _ _ (by assumption) fl
      · exfalso; omega
      · exact Hold.mk (owed_next (by assumption) (fun p hp => List.mem_cons_of_mem _ hp) (fun e h' tk fl => hexc j (by rw [← hR]; unfold rdF; rw [if_pos (by omega)]) e _ h' tk (by assumption) fl))
    · intro m₁ nx h tk hX F1 N1
      obtain ⟨j, t, iv, its, k, ws, rfl, rfl, hS, rfl, hR⟩ := hX
      k_steps
      · rename Fr h₀ _ _ _ => kF
        rename News h₀ _ _ _ => kN
        exact hret _ _ _ _ _ _ hR hS kF kN (by assumption)
      · exact absurd rfl (by assumption)
end
local macro_rules | `(tactic| walk_at "call ref") => `(tactic| (k_here; (with_reducible show wpAny _ _ (call (Value.ref 125) [Value.ref 132, _, _, _]) _ _ _); k_dflt (refine' CxE.use (c_plist_conn ?pp _ _ _ _ _ ?g ?gn) ?B ?F ?X ?N ?T ?hk ?hd ?hu ?_; (case pp => assumption); (case g => first | assumption | omega); (case gn => first | assumption | decide); (case B => k_asm); (case F => k_asm); (case X => k_asm); (case N => k_asm); (case T => k_asm); (case hk => first | exact rfl | assumption); (case hd => ktr_room); (case hu => ktr_units)); refine And.intro (fun lA9 its9 n9 ws9 h9 tk9 ok9 S9 F9 N9 l9 => ?_) (fun k9 err9 => Hold.out ?_); (try k_lt l9); (try dsimp only)))
theorem fresh15 : True := by
  w_top off
  trivial
section
theorem c_plist_upg {prog : Program} {w : World} {p : Program} {loose : List Str} {mean : ExcName → Option Value} {mg mb : Str → Option Value}
  (hpp : ProgOk prog) (x : Str) (tx : Tok) (ti : Tok) (nm : Str) (tn : Tok) (hx : x.length ≤ 1000) (hnm : nm.length ≤ 100) :
  CxE prog w p loose mean mg mb 6 [.ref 151, .str x tx, .int 0 ti, .str nm tn] 125 fun base h₀ L m l news s Q E =>
   (∀ (lA : Addr) (its : Array Value) (n : Nat) (ws : List Str) (h' : Heap) (tk' : Nat), readR (uEnd x) x = .ok ws → StrsAre its ws → Fr h₀ L h' m → News h₀ L h' ((lA, listOf its n) :: news) → (∀ p ∈ news, p.1 < lA) → Q (.ref lA) { s with heap := h', toks := tk' }) ∧
   (∀ k : Nat, readR (uEnd x) x = .error k → Owed base h₀ L m l news s E k) := by
  rintro dp un gd cn cs a ccd cl outer A₀ base h₀ L m news s Q E B F X N T hk hd hu ⟨hret, hexc⟩
  refine wpAny_call ?_
  (k_dflt cell_enter)
  k_steps
  refine Hold.mk (while_one (nm := "pos") (fun k => ∃ j : Nat, k = j ∧ j ≤ x.length ∧ cEnd x 0 = cEnd x j) (fun k => (x.length - k).toNat)
    (fun k => k = (cEnd x 0 : Nat)) (by assumption) (by assumption) rfl ⟨0, rfl, Nat.zero_le _, rfl⟩ (fun k t h tk hP F1 N1 => ?_) (fun k t h tk hX F1 N1 => ?_))
  · obtain ⟨j, rfl, h2, h3⟩ := hP
    k_steps
    all_goals first
      | exact WOut.of (by assumption) (by assumption) (fun _ h => h) (by rw [h3, cEnd_stop (fun hh => by omega)])
      | exact WOut.of (by assumption) (by assumption) (fun _ h => h) (by rw [h3, cEnd_stop (fun hh => comma_no (by assumption) (by assumption) hh.2)])
      | (refine WOne.of (by assumption) (by assumption) (fun _ h => h) ⟨bEnd x (j + 1), rfl, bEnd_le (by omega), by rw [h3, cEnd_comma (by omega) (comma_yes (by assumption) (by assumption))]⟩ ?_
         have := bEnd_ge x (j + 1); have := bEnd_le (x := x) (i := j + 1) (by omega); omega)
  · subst hX
    have hc0 := cEnd_le (x := x) (i := 0) (Nat.zero_le _)
    k_steps
    rename Fr _ _ _ _ => kF
    rename News _ _ _ _ => kN
    refine Hold.mk (pl_loop (uEnd x) x kF kN rfl ?_ ?_)
    · intro n m₁ nx h tk hJ F1 N1
      obtain ⟨j, t, iv, its, k, ws, rfl, rfl, hS, hw, hj, hn, hR⟩ := hJ
      obtain ⟨n', rfl⟩ : ∃ n', n = n' + 1 := ⟨n - 1, by omega⟩
      have hsz := hS.size
      have hw1 := uEnd_ge x j
      have hw2 := uEnd_le hj
      have hb1 := bEnd_ge x (uEnd x j)
      have hb2 := bEnd_le hw2
      k_steps
      · rename Fr _ _ _ _ => kF
        rename News _ _ _ _ => kN
        exact LSt.of kF kN (fun p hp => List.mem_cons_of_mem _ hp) ⟨bEnd x (uEnd x j), _, _, _, _, _, two3, rfl, hS.push _ _, by omega, by rw [← hR]; unfold rdF; rw [if_neg (by omega), if_pos (by omega)]⟩
      · have hcm := comma_yes (by assumption) (by assumption)
        have hc1 := cEnd_comma (by omega) hcm
        have hb3 := bEnd_ge x (bEnd x (uEnd x j) + 1)
        have hb4 := bEnd_le (x := x) (i := bEnd x (uEnd x j) + 1) (by omega)
        have hc2 := cEnd_le (x := x) (i := bEnd x (uEnd x j)) (by omega)
        rename Fr _ _ _ _ => kF
        rename News _ _ _ _ => kN
        refine Hold.mk (while_one (nm := "pos") (fun k => ∃ i : Nat, k = i ∧ bEnd x (uEnd x j) < i ∧ i ≤ x.length ∧ cEnd x (bEnd x (uEnd x j)) = cEnd x i) (fun k => (x.length - k).toNat)
          (fun k => k = (cEnd x (bEnd x (uEnd x j)) : Nat)) kF kN rfl ⟨bEnd x (bEnd x (uEnd x j) + 1), rfl, by omega, hb4, hc1⟩ (fun k t h tk hP F1 N1 => ?_) (fun k t h tk hX F1 N1 => ?_))
        · obtain ⟨i, rfl, h1, h2, h3⟩ := hP
          k_steps
          all_goals first
            | exact WOut.of (by assumption) (by assumption) (fun _ h => h) (by rw [h3, cEnd_stop (fun hh => by omega)])
            | exact WOut.of (by assumption) (by assumption) (fun _ h => h) (by rw [h3, cEnd_stop (fun hh => comma_no (by assumption) (by assumption) hh.2)])
            | (refine WOne.of (by assumption) (by assumption) (fun _ h => h) ⟨bEnd x (i + 1), rfl, ?_, bEnd_le (by omega), by rw [h3, cEnd_comma (by omega) (comma_yes (by assumption) (by assumption))]⟩ ?_
               · have := bEnd_ge x (i + 1); omega
               · have := bEnd_ge x (i + 1); have := bEnd_le (x := x) (i := i + 1) (by omega); omega)
        · subst hX
          have hc3 : bEnd x (uEnd x j) < cEnd x (bEnd x (uEnd x j)) := by rw [hc1]; have := cEnd_ge x (bEnd x (bEnd x (uEnd x j) + 1)); omega
          k_steps
          · rename Fr _ _ _ _ => kF
            rename News _ _ _ _ => kN
            exact LSt.of kF kN (fun p hp => List.mem_cons_of_mem _ hp) ⟨cEnd x (bEnd x (uEnd x j)), _, _, _, _, _, two4u, rfl, hS.push _ _, by omega, by rw [← hR]; unfold rdF; rw [if_neg (by omega), if_neg (by omega), if_pos hcm, if_pos (by omega)]⟩
          · rename Fr _ _ _ _ => kF
            rename News _ _ _ _ => kN
            exact LSt.of kF kN (fun p hp => List.mem_cons_of_mem _ hp) ⟨n', by omega, cEnd x (bEnd x (uEnd x j)), _, _, _, _, _, two4u, rfl, hS.push _ _, by rw [List.length_append, List.length_singleton]; omega, hc2, by omega, by rw [← hR]; conv => rhs; unfold rdF; rw [if_neg (by omega), if_neg (by omega), if_pos hcm, if_neg (by omega)]⟩
      · rename Fr _ _ _ _ => kF
        rename News _ _ _ _ => kN
        rename Below _ _ _ _ => kB
        rename getL _ _ = _ => kg
        refine raise_end kB kF kN ?_ kg ?_ (fun p hp => List.mem_cons_of_mem _ (List.mem_cons_of_mem _ hp)) ?_
        · assumption
        · assumption
        · intro h' fl
          exact hexc (bEnd x (uEnd x j)) (by rw [← hR]; unfold rdF; rw [if_neg (by omega), if_neg (by omega), if_neg (comma_no (by assumption) (by assumption))]) _ _ _ _ (by assumption) fl
      · exfalso; omega
      · exact Hold.mk (owed_next (by assumption) (fun p hp => List.mem_cons_of_mem _ hp) (fun e h' tk fl => hexc j (by rw [← hR]; unfold rdF; rw [if_pos (by omega)]) e _ h' tk (by assumption) fl))
    · intro m₁ nx h tk hX F1 N1
      obtain ⟨j, t, iv, its, k, ws, rfl, rfl, hS, rfl, hR⟩ := hX
      k_steps
      · rename Fr h₀ _ _ _ => kF
        rename News h₀ _ _ _ => kN
        exact hret _ _ _ _ _ _ hR hS kF kN (by assumption)
      · exact absurd rfl (by assumption)
end
local macro_rules | `(tactic| walk_at "call ref") => `(tactic| (k_here; (with_reducible show wpAny _ _ (call (Value.ref 125) [Value.ref 151, _, _, _]) _ _ _); k_dflt (refine' CxE.use (c_plist_upg ?pp _ _ _ _ _ ?g ?gn) ?B ?F ?X ?N ?T ?hk ?hd ?hu ?_; (case pp => assumption); (case g => first | assumption | omega); (case gn => first | assumption | decide); (case B => k_asm); (case F => k_asm); (case X => k_asm); (case N => k_asm); (case T => k_asm); (case hk => first | exact rfl | assumption); (case hd => ktr_room); (case hu => ktr_units)); refine And.intro (fun lA9 its9 n9 ws9 h9 tk9 ok9 S9 F9 N9 l9 => ?_) (fun k9 err9 => Hold.out ?_); (try k_lt l9); (try dsimp only)))
theorem fresh16 : True := by
  w_top off
  trivial
section
theorem c_plist_sub {prog : Program} {w : World} {p : Program} {loose : List Str} {mean : ExcName → Option Value} {mg mb : Str → Option Value}
  (hpp : ProgOk prog) (x : Str) (tx : Tok) (ti : Tok) (nm : Str) (tn : Tok) (hx : x.length ≤ 1000) (hnm : nm.length ≤ 100) :
  CxE prog w p loose mean mg mb 6 [.ref 165, .str x tx, .int 0 ti, .str nm tn] 125 fun base h₀ L m l news s Q E =>
   (∀ (lA : Addr) (its : Array Value) (n : Nat) (ws : List Str) (h' : Heap) (tk' : Nat), readR (wEnd x) x = .ok ws → StrsAre its ws → Fr h₀ L h' m → News h₀ L h' ((lA, listOf its n) :: news) → (∀ p ∈ news, p.1 < lA) → Q (.ref lA) { s with heap := h', toks := tk' }) ∧
   (∀ k : Nat, readR (wEnd x) x = .error k → Owed base h₀ L m l news s E k) := by
  rintro dp un gd cn cs a ccd cl outer A₀ base h₀ L m news s Q E B F X N T hk hd hu ⟨hret, hexc⟩
  refine wpAny_call ?_
  (k_dflt cell_enter)
  k_steps
  refine Hold.mk (while_one (nm := "pos") (fun k => ∃ j : Nat, k = j ∧ j ≤ x.length ∧ cEnd x 0 = cEnd x j) (fun k => (x.length - k).toNat)
    (fun k => k = (cEnd x 0 : Nat)) (by assumption) (by assumption) rfl ⟨0, rfl, Nat.zero_le _, rfl⟩ (fun k t h tk hP F1 N1 => ?_) (fun k t h tk hX F1 N1 => ?_))
  · obtain ⟨j, rfl, h2, h3⟩ := hP
    k_steps
    all_goals first
      | exact WOut.of (by assumption) (by assumption) (fun _ h => h) (by rw [h3, cEnd_stop (fun hh => by omega)])
      | exact WOut.of (by assumption) (by assumption) (fun _ h => h) (by rw [h3, cEnd_stop (fun hh => comma_no (by assumption) (by assumption) hh.2)])
      | (refine WOne.of (by assumption) (by assumption) (fun _ h => h) ⟨bEnd x (j + 1), rfl, bEnd_le (by omega), by rw [h3, cEnd_comma (by omega) (comma_yes (by assumption) (by assumption))]⟩ ?_
         have := bEnd_ge x (j + 1); have := bEnd_le (x := x) (i := j + 1) (by omega); omega)
  · subst hX
    have hc0 := cEnd_le (x := x) (i := 0) (Nat.zero_le _)
    k_steps
    rename Fr _ _ _ _ => kF
    rename News _ _ _ _ => kN
    refine Hold.mk (pl_loop (wEnd x) x kF kN rfl ?_ ?_)
    · intro n m₁ nx h tk hJ F1 N1
      obtain ⟨j, t, iv, its, k, ws, rfl, rfl, hS, hw, hj, hn, hR⟩ := hJ
      obtain ⟨n', rfl⟩ : ∃ n', n = n' + 1 := ⟨n - 1, by omega⟩
      have hsz := hS.size
      have hw1 := wEnd_ge x j
      have hw2 := wEnd_le hj
      have hb1 := bEnd_ge x (wEnd x j)
      have hb2 := bEnd_le hw2
      k_steps
      · rename Fr _ _ _ _ => kF
        rename News _ _ _ _ => kN
        exact LSt.of kF kN (fun p hp => List.mem_cons_of_mem _ hp) ⟨bEnd x (wEnd x j), _, _, _, _, _, two3, rfl, hS.push _ _, by omega, by rw [← hR]; unfold rdF; rw [if_neg (by omega), if_pos (by omega)]⟩
      · have hcm := comma_yes (by assumption) (by assumption)
        have hc1 := cEnd_comma (by omega) hcm
        have hb3 := bEnd_ge x (bEnd x (wEnd x j) + 1)
        have hb4 := bEnd_le (x := x) (i := bEnd x (wEnd x j) + 1) (by omega)
        have hc2 := cEnd_le (x := x) (i := bEnd x (wEnd x j)) (by omega)
        rename Fr _ _ _ _ => kF
        rename News _ _ _ _ => kN
        refine Hold.mk (while_one (nm := "pos") (fun k => ∃ i : Nat, k = i ∧ bEnd x (wEnd x j) < i ∧ i ≤ x.length ∧ cEnd x (bEnd x (wEnd x j)) = cEnd x i) (fun k => (x.length - k).toNat)
          (fun k => k = (cEnd x (bEnd x (wEnd x j)) : Nat)) kF kN rfl ⟨bEnd x (bEnd x (wEnd x j) + 1), rfl, by omega, hb4, hc1⟩ (fun k t h tk hP F1 N1 => ?_) (fun k t h tk hX F1 N1 => ?_))
        · obtain ⟨i, rfl, h1, h2, h3⟩ := hP
          k_steps
          all_goals first
            | exact WOut.of (by assumption) (by assumption) (fun _ h => h) (by rw [h3, cEnd_stop (fun hh => by omega)])
            | exact WOut.of (by assumption) (by assumption) (fun _ h => h) (by rw [h3, cEnd_stop (fun hh => comma_no (by assumption) (by assumption) hh.2)])
            | (refine WOne.of (by assumption) (by assumption) (fun _ h => h) ⟨bEnd x (i + 1), rfl, ?_, bEnd_le (by omega), by rw [h3, cEnd_comma (by omega) (comma_yes (by assumption) (by assumption))]⟩ ?_
               · have := bEnd_ge x (i + 1); omega
               · have := bEnd_ge x (i + 1); have := bEnd_le (x := x) (i := i + 1) (by omega); omega)
        · subst hX
          have hc3 : bEnd x (wEnd x j) < cEnd x (bEnd x (wEnd x j)) := by rw [hc1]; have := cEnd_ge x (bEnd x (bEnd x (wEnd x j) + 1)); omega
          k_steps
          · rename Fr _ _ _ _ => kF
            rename News _ _ _ _ => kN
            exact LSt.of kF kN (fun p hp => List.mem_cons_of_mem _ hp) ⟨cEnd x (bEnd x (wEnd x j)), _, _, _, _, _, two4u, rfl, hS.push _ _, by omega, by rw [← hR]; unfold rdF; rw [if_neg (by omega), if_neg (by omega), if_pos hcm, if_pos (by omega)]⟩
          · rename Fr _ _ _ _ => kF
            rename News _ _ _ _ => kN
            exact LSt.of kF kN (fun p hp => List.mem_cons_of_mem _ hp) ⟨n', by omega, cEnd x (bEnd x (wEnd x j)), _, _, _, _, _, two4u, rfl, hS.push _ _, by rw [List.length_append, List.length_singleton]; omega, hc2, by omega, by rw [← hR]; conv => rhs; unfold rdF; rw [if_neg (by omega), if_neg (by omega), if_pos hcm, if_neg (by omega)]⟩
      · rename Fr _ _ _ _ => kF
        rename News _ _ _ _ => kN
        rename Below _ _ _ _ => kB
        rename getL _ _ = _ => kg
        refine raise_end kB kF kN ?_ kg ?_ (fun p hp => List.mem_cons_of_mem _ (List.mem_cons_of_mem _ hp)) ?_
        · assumption
        · assumption
        · intro h' fl
          exact hexc (bEnd x (wEnd x j)) (by rw [← hR]; unfold rdF; rw [if_neg (by omega), if_neg (by omega), if_neg (comma_no (by assumption) (by assumption))]) _ _ _ _ (by assumption) fl
      · exfalso; omega
      · exact Hold.mk (owed_next (by assumption) (fun p hp => List.mem_cons_of_mem _ hp) (fun e h' tk fl => hexc j (by rw [← hR]; unfold rdF; rw [if_pos (by omega)]) e _ h' tk (by assumption) fl))
    · intro m₁ nx h tk hX F1 N1
      obtain ⟨j, t, iv, its, k, ws, rfl, rfl, hS, rfl, hR⟩ := hX
      k_steps
      · rename Fr h₀ _ _ _ => kF
        rename News h₀ _ _ _ => kN
        exact hret _ _ _ _ _ _ hR hS kF kN (by assumption)
      · exact absurd rfl (by assumption)
end
local macro_rules | `(tactic| walk_at "call ref") => `(tactic| (k_here; (with_reducible show wpAny _ _ (call (Value.ref 125) [Value.ref 165, _, _, _]) _ _ _); k_dflt (refine' CxE.use (c_plist_sub ?pp _ _ _ _ _ ?g ?gn) ?B ?F ?X ?N ?T ?hk ?hd ?hu ?_; (case pp => assumption); (case g => first | assumption | omega); (case gn => first | assumption | decide); (case B => k_asm); (case F => k_asm); (case X => k_asm); (case N => k_asm); (case T => k_asm); (case hk => first | exact rfl | assumption); (case hd => ktr_room); (case hu => ktr_units)); refine And.intro (fun lA9 its9 n9 ws9 h9 tk9 ok9 S9 F9 N9 l9 => ?_) (fun k9 err9 => Hold.out ?_); (try k_lt l9); (try dsimp only)))
theorem fresh17 : True := by
  w_top off
  trivial
section
theorem c_pconn {prog : Program} {w : World} {p : Program} {loose : List Str} {mean : ExcName → Option Value} {mg mb : Str → Option Value}
  (hpp : ProgOk prog) (x : Str) (tx : Tok) (hx : x.length ≤ 1000) :
  CxE prog w p loose mean mg mb 7 [.str x tx] 139 fun base h₀ L m l news s Q E =>
   (∀ (lA : Addr) (its : Array Value) (n : Nat) (ws : List Str) (h' : Heap) (tk' : Nat), readR (wEnd x) x = .ok ws → StrsAre its ws → Fr h₀ L h' m → News h₀ L h' ((lA, listOf its n) :: news) → (∀ p ∈ news, p.1 < lA) → Q (.ref lA) { s with heap := h', toks := tk' }) ∧
   (∀ k : Nat, readR (wEnd x) x = .error k → Owed base h₀ L m l news s E k) := by
  rintro dp un gd cn cs a ccd cl outer A₀ base h₀ L m news s Q E B F X N T hk hd hu ⟨hret, hexc⟩
  refine wpAny_call ?_
  (k_dflt cell_enter)
  k_steps
  · rename Fr h₀ _ _ _ => kF
    rename News h₀ _ _ _ => kN
    exact hret _ _ _ _ _ _ (by assumption) (by assumption) kF kN (by assumption)
  · exact Hold.mk (owed_next (by assumption) (fun _ h => h) (fun e h' tk fl => hexc _ (by assumption) e _ h' tk (by assumption) fl))
theorem c_pupg {prog : Program} {w : World} {p : Program} {loose : List Str} {mean : ExcName → Option Value} {mg mb : Str → Option Value}
  (hpp : ProgOk prog) (x : Str) (tx : Tok) (hx : x.length ≤ 1000) :
  CxE prog w p loose mean mg mb 7 [.str x tx] 158 fun base h₀ L m l news s Q E =>
   (∀ (lA : Addr) (its : Array Value) (n : Nat) (ws : List Str) (h' : Heap) (tk' : Nat), readR (uEnd x) x = .ok ws → StrsAre its ws → Fr h₀ L h' m → News h₀ L h' ((lA, listOf its n) :: news) → (∀ p ∈ news, p.1 < lA) → Q (.ref lA) { s with heap := h', toks := tk' }) ∧
   (∀ k : Nat, readR (uEnd x) x = .error k → Owed base h₀ L m l news s E k) := by
  rintro dp un gd cn cs a ccd cl outer A₀ base h₀ L m news s Q E B F X N T hk hd hu ⟨hret, hexc⟩
  refine wpAny_call ?_
  (k_dflt cell_enter)
  k_steps
  · rename Fr h₀ _ _ _ => kF
    rename News h₀ _ _ _ => kN
    exact hret _ _ _ _ _ _ (by assumption) (by assumption) kF kN (by assumption)
  · exact Hold.mk (owed_next (by assumption) (fun _ h => h) (fun e h' tk fl => hexc _ (by assumption) e _ h' tk (by assumption) fl))
theorem c_psub {prog : Program} {w : World} {p : Program} {loose : List Str} {mean : ExcName → Option Value} {mg mb : Str → Option Value}
  (hpp : ProgOk prog) (x : Str) (tx : Tok) (hx : x.length ≤ 1000) :
  CxE prog w p loose mean mg mb 7 [.str x tx] 172 fun base h₀ L m l news s Q E =>
   (∀ (lA : Addr) (its : Array Value) (n : Nat) (ws : List Str) (h' : Heap) (tk' : Nat), readR (wEnd x) x = .ok ws → StrsAre its ws → Fr h₀ L h' m → News h₀ L h' ((lA, listOf its n) :: news) → (∀ p ∈ news, p.1 < lA) → Q (.ref lA) { s with heap := h', toks := tk' }) ∧
   (∀ k : Nat, readR (wEnd x) x = .error k → Owed base h₀ L m l news s E k) := by
  rintro dp un gd cn cs a ccd cl outer A₀ base h₀ L m news s Q E B F X N T hk hd hu ⟨hret, hexc⟩
  refine wpAny_call ?_
  (k_dflt cell_enter)
  k_steps
  · rename Fr h₀ _ _ _ => kF
    rename News h₀ _ _ _ => kN
    exact hret _ _ _ _ _ _ (by assumption) (by assumption) kF kN (by assumption)
  · exact Hold.mk (owed_next (by assumption) (fun _ h => h) (fun e h' tk fl => hexc _ (by assumption) e _ h' tk (by assumption) fl))
end
local macro_rules | `(tactic| walk_at "call ref") => `(tactic| (k_here; (with_reducible show wpAny _ _ (call (Value.ref 139) [_]) _ _ _); k_dflt (refine' CxE.use (c_pconn ?pp _ _ ?g) ?B ?F ?X ?N ?T ?hk ?hd ?hu ?_; (case pp => assumption); (case g => first | assumption | omega); (case B => k_asm); (case F => k_asm); (case X => k_asm); (case N => k_asm); (case T => k_asm); (case hk => first | exact rfl | assumption); (case hd => ktr_room); (case hu => ktr_units)); refine And.intro (fun lA9 its9 n9 ws9 h9 tk9 ok9 S9 F9 N9 l9 => ?_) (fun k9 err9 => Hold.out ?_); (try k_lt l9); (try dsimp only)))
local macro_rules | `(tactic| walk_at "call ref") => `(tactic| (k_here; (with_reducible show wpAny _ _ (call (Value.ref 158) [_]) _ _ _); k_dflt (refine' CxE.use (c_pupg ?pp _ _ ?g) ?B ?F ?X ?N ?T ?hk ?hd ?hu ?_; (case pp => assumption); (case g => first | assumption | omega); (case B => k_asm); (case F => k_asm); (case X => k_asm); (case N => k_asm); (case T => k_asm); (case hk => first | exact rfl | assumption); (case hd => ktr_room); (case hu => ktr_units)); refine And.intro (fun lA9 its9 n9 ws9 h9 tk9 ok9 S9 F9 N9 l9 => ?_) (fun k9 err9 => Hold.out ?_); (try k_lt l9); (try dsimp only)))
local macro_rules | `(tactic| walk_at "call ref") => `(tactic| (k_here; (with_reducible show wpAny _ _ (call (Value.ref 172) [_]) _ _ _); k_dflt (refine' CxE.use (c_psub ?pp _ _ ?g) ?B ?F ?X ?N ?T ?hk ?hd ?hu ?_; (case pp => assumption); (case g => first | assumption | omega); (case B => k_asm); (case F => k_asm); (case X => k_asm); (case N => k_asm); (case T => k_asm); (case hk => first | exact rfl | assumption); (case hd => ktr_room); (case hu => ktr_units)); refine And.intro (fun lA9 its9 n9 ws9 h9 tk9 ok9 S9 F9 N9 l9 => ?_) (fun k9 err9 => Hold.out ?_); (try k_lt l9); (try dsimp only)))
theorem fresh18 : True := by
  w_top off
  trivial
section
/-- a contract of a def with a try, called from the law's own frame -/
abbrev CxT (prog : Program) (w : World) (p : Program) (loose : List Str) (mean : ExcName → Option Value) (mg mb : Str → Option Value)
   (k : Nat) (vs : List Value) (f : Addr) (P : (h₀ : Heap) → (L : Addr) → (m : Str → Option Value) → (news : List (Addr × Obj)) → (s : Shared) → (Q E : Value → Shared → Prop) → Prop) : Prop :=
  ∀ (dp un : Nat) (gd : Option (List Code)) (cn : Str) (cs : Scope) (a : Addr) (ccd : Value) (cl : List (Str × Addr)) (A₀ : Around) (h₀ : Heap) (L : Addr) (m : Str → Option Value)
    (news : List (Addr × Obj)) (s : Shared) (Q E : Value → Shared → Prop),
    Below A₀ h₀ [] h₀ → Fr h₀ L s.heap m → (hd.heap_39 w.params).In h₀ → News h₀ L s.heap news → Top p loose mean mg mb h₀ → cs.kind = .function →
    dp + k < recursionLimit → un + 8 * k < cLine → P h₀ L m news s Q E →
      wpAny (model prog w) (ktrTop dp un gd cn cs L a ccd cl []) (call (.ref f) vs) Q E s
theorem CxT.use {prog : Program} {w : World} {p : Program} {loose : List Str} {mean : ExcName → Option Value} {mg mb : Str → Option Value} {k : Nat} {vs : List Value} {f : Addr} {P : (h₀ : Heap) → (L : Addr) → (m : Str → Option Value) → (news : List (Addr × Obj)) → (s : Shared) → (Q E : Value → Shared → Prop) → Prop}
  {dp un : Nat} {gd : Option (List Code)} {cn : Str} {cs : Scope} {a : Addr} {ccd : Value} {cl : List (Str × Addr)} {A₀ : Around} {h₀ : Heap} {L : Addr} {m : Str → Option Value} {news : List (Addr × Obj)} {s : Shared} {Q E : Value → Shared → Prop}
    (c : CxT prog w p loose mean mg mb k vs f P) (B : Below A₀ h₀ [] h₀) (F : Fr h₀ L s.heap m) (X : (hd.heap_39 w.params).In h₀) (N : News h₀ L s.heap news) (T : Top p loose mean mg mb h₀) (hk : cs.kind = .function)
    (hd : dp + k < recursionLimit) (hu : un + 8 * k < cLine) (h : P h₀ L m news s Q E) : wpAny (model prog w) (ktrTop dp un gd cn cs L a ccd cl []) (call (.ref f) vs) Q E s :=
  c _ _ _ _ _ _ _ _ _ _ _ _ _ _ _ _ B F X N T hk hd hu h
section
local macro_rules | `(tactic| walk_at "getAttr ref") => `(tactic| (k_here; k_dflt (refine' get_exc ?F ?X ?N ?he ?hd ?hc ?hn ?hdd ?hl ?hv ?hh ?ha ?hsub ?hga ?hgh ?_; (case F => k_asm); (case X => k_asm); (case N => k_asm); (case hl => assumption); (case hc => assumption); (case hn => assumption); (case hdd => assumption); (case he => k_mem); (case hd => k_mem); (case hv => exact rfl); (case hh => k_is); (case ha => k_is); (case hsub => k_is); (case hga => k_is); (case hgh => k_is); k_whole)))
theorem c_lconn {prog : Program} {w : World} {p : Program} {loose : List Str} {mean : ExcName → Option Value} {mg mb : Str → Option Value}
  (hpp : ProgOk prog) (x : Str) (tx : Tok) (hx : x.length ≤ 1000) :
  CxT prog w p loose mean mg mb 8 [.str x tx] 240 fun h₀ L m news s Q E =>
   (∀ (lA : Addr) (its : Array Value) (n : Nat) (ws : List Str) (h' : Heap) (tk' : Nat), readR (wEnd x) x = .ok ws → StrsAre its ws → Fr h₀ L h' m → News h₀ L h' ((lA, listOf its n) :: news) → (∀ p ∈ news, p.1 < lA) → Q (.ref lA) { s with heap := h', toks := tk' }) ∧
   (∀ (k : Nat) (t : Tok) (h' : Heap) (tk' : Nat), readR (wEnd x) x = .error k → Fr h₀ L h' m → News h₀ L h' news → Q (.int k t) { s with heap := h', toks := tk' }) := by
  rintro dp un gd cn cs a ccd cl A₀ h₀ L m news s Q E B F X N T hk hd hu ⟨hret, hexc⟩
  refine wpAny_call ?_
  k_dflt (refine' code_S0X ?k1 ?k2 ?k3 ?k4 ?k5 ?kA ?kF ?kK ?k6 ?k7 ?k8 ?k9 ?kB ?_ ?c2 ?c3 ?c4 ?c5; (case kA => exact rfl); (case kF => exact rfl); (case kK => assumption); (case k1 => k_asm); (case k2 => k_asm); (case k3 => k_asm); (case k4 => k_asm); (case k5 => k_asm); (case k6 => k_is); (case k7 => k_is); (case k8 => ktr_room); (case k9 => exact BindsTo.of_eq rfl); (case c5 => decide); (case kB => exact locs rfl); (case c2 => exact rfl); (case c3 => exact rfl); (case c4 => exact rfl); k_whole; intro g' L' h' FG' F' N' B' X' T' D'; (try dsimp only); (try k_lift B'); (try k_fold))
  k_steps
  · rename Fr h₀ _ _ _ => kF
    rename News h₀ _ _ _ => kN
    exact hret _ _ _ _ _ _ (by assumption) (by assumption) kF kN (by assumption)
  · refine Hold.mk (fun e9 g9 h9 tk9 F9 R9 => ?_)
    k_dflt (refine' caught_own R9 F9 ?K ?XB ?TB ?D ?ex ?q ?_; (case K => assumption); (case XB => assumption); (case TB => assumption); (case D => assumption); (case ex => k_is); (case q => kts_isx))
    intro h' g' tk d es nn t eo T'' F'' N'' c1 c2 c3 c4 B'' X'' P'' D''
    k_steps
    rename Fr h₀ _ _ _ => kF
    rename News h₀ _ _ _ => kN
    exact hexc _ _ _ _ (by assumption) kF (fun p hp => kN p (List.mem_cons_of_mem _ (List.mem_cons_of_mem _ hp)))
theorem c_lupg {prog : Program} {w : World} {p : Program} {loose : List Str} {mean : ExcName → Option Value} {mg mb : Str → Option Value}
  (hpp : ProgOk prog) (x : Str) (tx : Tok) (hx : x.length ≤ 1000) :
  CxT prog w p loose mean mg mb 8 [.str x tx] 247 fun h₀ L m news s Q E =>
   (∀ (lA : Addr) (its : Array Value) (n : Nat) (ws : List Str) (h' : Heap) (tk' : Nat), readR (uEnd x) x = .ok ws → StrsAre its ws → Fr h₀ L h' m → News h₀ L h' ((lA, listOf its n) :: news) → (∀ p ∈ news, p.1 < lA) → Q (.ref lA) { s with heap := h', toks := tk' }) ∧
   (∀ (k : Nat) (t : Tok) (h' : Heap) (tk' : Nat), readR (uEnd x) x = .error k → Fr h₀ L h' m → News h₀ L h' news → Q (.int k t) { s with heap := h', toks := tk' }) := by
  rintro dp un gd cn cs a ccd cl A₀ h₀ L m news s Q E B F X N T hk hd hu ⟨hret, hexc⟩
  refine wpAny_call ?_
  k_dflt (refine' code_S0X ?k1 ?k2 ?k3 ?k4 ?k5 ?kA ?kF ?kK ?k6 ?k7 ?k8 ?k9 ?kB ?_ ?c2 ?c3 ?c4 ?c5; (case kA => exact rfl); (case kF => exact rfl); (case kK => assumption); (case k1 => k_asm); (case k2 => k_asm); (case k3 => k_asm); (case k4 => k_asm); (case k5 => k_asm); (case k6 => k_is); (case k7 => k_is); (case k8 => ktr_room); (case k9 => exact BindsTo.of_eq rfl); (case c5 => decide); (case kB => exact locs rfl); (case c2 => exact rfl); (case c3 => exact rfl); (case c4 => exact rfl); k_whole; intro g' L' h' FG' F' N' B' X' T' D'; (try dsimp only); (try k_lift B'); (try k_fold))
  k_steps
  · rename Fr h₀ _ _ _ => kF
    rename News h₀ _ _ _ => kN
    exact hret _ _ _ _ _ _ (by assumption) (by assumption) kF kN (by assumption)
  · refine Hold.mk (fun e9 g9 h9 tk9 F9 R9 => ?_)
    k_dflt (refine' caught_own R9 F9 ?K ?XB ?TB ?D ?ex ?q ?_; (case K => assumption); (case XB => assumption); (case TB => assumption); (case D => assumption); (case ex => k_is); (case q => kts_isx))
    intro h' g' tk d es nn t eo T'' F'' N'' c1 c2 c3 c4 B'' X'' P'' D''
    k_steps
    rename Fr h₀ _ _ _ => kF
    rename News h₀ _ _ _ => kN
    exact hexc _ _ _ _ (by assumption) kF (fun p hp => kN p (List.mem_cons_of_mem _ (List.mem_cons_of_mem _ hp)))
theorem c_lsub {prog : Program} {w : World} {p : Program} {loose : List Str} {mean : ExcName → Option Value} {mg mb : Str → Option Value}
  (hpp : ProgOk prog) (x : Str) (tx : Tok) (hx : x.length ≤ 1000) :
  CxT prog w p loose mean mg mb 8 [.str x tx] 254 fun h₀ L m news s Q E =>
   (∀ (lA : Addr) (its : Array Value) (n : Nat) (ws : List Str) (h' : Heap) (tk' : Nat), readR (wEnd x) x = .ok ws → StrsAre its ws → Fr h₀ L h' m → News h₀ L h' ((lA, listOf its n) :: news) → (∀ p ∈ news, p.1 < lA) → Q (.ref lA) { s with heap := h', toks := tk' }) ∧
   (∀ (k : Nat) (t : Tok) (h' : Heap) (tk' : Nat), readR (wEnd x) x = .error k → Fr h₀ L h' m → News h₀ L h' news → Q (.int k t) { s with heap := h', toks := tk' }) := by
  rintro dp un gd cn cs a ccd cl A₀ h₀ L m news s Q E B F X N T hk hd hu ⟨hret, hexc⟩
  refine wpAny_call ?_
  k_dflt (refine' code_S0X ?k1 ?k2 ?k3 ?k4 ?k5 ?kA ?kF ?kK ?k6 ?k7 ?k8 ?k9 ?kB ?_ ?c2 ?c3 ?c4 ?c5; (case kA => exact rfl); (case kF => exact rfl); (case kK => assumption); (case k1 => k_asm); (case k2 => k_asm); (case k3 => k_asm); (case k4 => k_asm); (case k5 => k_asm); (case k6 => k_is); (case k7 => k_is); (case k8 => ktr_room); (case k9 => exact BindsTo.of_eq rfl); (case c5 => decide); (case kB => exact locs rfl); (case c2 => exact rfl); (case c3 => exact rfl); (case c4 => exact rfl); k_whole; intro g' L' h' FG' F' N' B' X' T' D'; (try dsimp only); (try k_lift B'); (try k_fold))
  k_steps
  · rename Fr h₀ _ _ _ => kF
    rename News h₀ _ _ _ => kN
    exact hret _ _ _ _ _ _ (by assumption) (by assumption) kF kN (by assumption)
  · refine Hold.mk (fun e9 g9 h9 tk9 F9 R9 => ?_)
    k_dflt (refine' caught_own R9 F9 ?K ?XB ?TB ?D ?ex ?q ?_; (case K => assumption); (case XB => assumption); (case TB => assumption); (case D => assumption); (case ex => k_is); (case q => kts_isx))
    intro h' g' tk d es nn t eo T'' F'' N'' c1 c2 c3 c4 B'' X'' P'' D''
    k_steps
    rename Fr h₀ _ _ _ => kF
    rename News h₀ _ _ _ => kN
    exact hexc _ _ _ _ (by assumption) kF (fun p hp => kN p (List.mem_cons_of_mem _ (List.mem_cons_of_mem _ hp)))
end
end
local macro_rules | `(tactic| walk_at "call ref") => `(tactic| (k_here; (with_reducible show wpAny _ _ (call (Value.ref 240) [_]) _ _ _); k_dflt (refine' CxT.use (c_lconn ?pp _ _ ?g) ?B ?F ?X ?N ?T ?hk ?hd ?hu ?_; (case pp => assumption); (case g => first | assumption | omega); (case B => k_asm); (case F => k_asm); (case X => k_asm); (case N => k_asm); (case T => k_asm); (case hk => first | exact rfl | assumption); (case hd => ktr_room); (case hu => ktr_units)); refine And.intro (fun lA9 its9 n9 ws9 h9 tk9 ok9 S9 F9 N9 l9 => ?_) (fun k9 t9 h9 tk9 err9 F9 N9 => ?_); (try k_lt l9); (try dsimp only)))
local macro_rules | `(tactic| walk_at "call ref") => `(tactic| (k_here; (with_reducible show wpAny _ _ (call (Value.ref 247) [_]) _ _ _); k_dflt (refine' CxT.use (c_lupg ?pp _ _ ?g) ?B ?F ?X ?N ?T ?hk ?hd ?hu ?_; (case pp => assumption); (case g => first | assumption | omega); (case B => k_asm); (case F => k_asm); (case X => k_asm); (case N => k_asm); (case T => k_asm); (case hk => first | exact rfl | assumption); (case hd => ktr_room); (case hu => ktr_units)); refine And.intro (fun lA9 its9 n9 ws9 h9 tk9 ok9 S9 F9 N9 l9 => ?_) (fun k9 t9 h9 tk9 err9 F9 N9 => ?_); (try k_lt l9); (try dsimp only)))
local macro_rules | `(tactic| walk_at "call ref") => `(tactic| (k_here; (with_reducible show wpAny _ _ (call (Value.ref 254) [_]) _ _ _); k_dflt (refine' CxT.use (c_lsub ?pp _ _ ?g) ?B ?F ?X ?N ?T ?hk ?hd ?hu ?_; (case pp => assumption); (case g => first | assumption | omega); (case B => k_asm); (case F => k_asm); (case X => k_asm); (case N => k_asm); (case T => k_asm); (case hk => first | exact rfl | assumption); (case hd => ktr_room); (case hu => ktr_units)); refine And.intro (fun lA9 its9 n9 ws9 h9 tk9 ok9 S9 F9 N9 l9 => ?_) (fun k9 t9 h9 tk9 err9 F9 N9 => ?_); (try k_lt l9); (try dsimp only)))
theorem fresh19 : True := by
  w_top off
  trivial
section
abbrev thr (a b c : Str) (av : Value) (bv cv : Option Value) (m₀ : Str → Option Value) : Str → Option Value := fun y => if y = a then some av else if y = b then bv else if y = c then cv else m₀ y
theorem thr_init {a b c : Str} {av : Value} {m : Str → Option Value} (h : m a = some av) : m = thr a b c av (m b) (m c) m := by
  funext y
  unfold thr
  split
  · rename_i e; rw [e, h]
  · split
    · rename_i e; rw [e]
    · split
      · rename_i e; rw [e]
      · rfl
theorem thr_turn {a b c : Str} {A B C D V : Value} {bv cv : Option Value} {m₀ : Str → Option Value} : (fun y => if y = a then some A else if y = a then some B else if y = b then some C else if y = c then some D else thr a b c V bv cv m₀ y) = thr a b c A (some C) (some D) m₀ := by
  funext y
  by_cases h1 : y = a
  · simp only [thr, if_pos h1]
  · simp only [thr, if_neg h1]
    by_cases h2 : y = b
    · simp only [if_pos h2]
    · simp only [if_neg h2]
      by_cases h3 : y = c
      · simp only [if_pos h3]
      · simp only [if_neg h3]
section
variable {prog : Program} {w : World} {A : Around} {E : Value → Shared → Prop} {Q : Flow → Shared → Prop} {s : Shared} {env : Env} {h₀ : Heap}
/-- a turn of a for is through -/
def FOne (h₀ : Heap) (L : Addr) (s : Shared) (I : Addr) (it : Obj) (J : (Str → Option Value) → List (Addr × Obj) → Prop) (Q : Flow → Shared → Prop) (f : Flow) (s₂ : Shared) : Prop :=
  match f with
  | .ret v => Q (.ret v) s₂
  | .brk => Q .next s₂
  | _ => ∃ h' tk m' nx', s₂ = { s with heap := h', toks := tk } ∧ Fr h₀ L h' m' ∧ News h₀ L h' ((I, it) :: nx') ∧ (∀ p ∈ nx', p.1 ≠ I) ∧ J m' nx'
theorem FOne.of {L I : Addr} {it : Obj} {J : (Str → Option Value) → List (Addr × Obj) → Prop} {m' : Str → Option Value} {nx nx' : List (Addr × Obj)} {h' : Heap} {tk : Nat} (F : Fr h₀ L h' m') (N : News h₀ L h' nx') (hs : ∀ p ∈ (I, it) :: nx, p ∈ nx') (ho : ∀ p ∈ nx, p.1 ≠ I) (hj : J m' nx) :
    FOne h₀ L s I it J Q .next { s with heap := h', toks := tk } := ⟨h', tk, m', nx, rfl, F, fun p hp => N p (hs p hp), ho, hj⟩
/-- for_range with its turn's end under a name -/
theorem for_rangeF {x : Str} {body : List Stmt} {r : Addr} {b₀ : Int} {t₀ u₀ v₀ : Tok} {n : Nat} {m₀ : Str → Option Value} {news : List (Addr × Obj)} (J : Nat → (Str → Option Value) → List (Addr × Obj) → Prop)
    (hh : A.handled = none) (hr : IsRange s.heap r 0 b₀ 1 t₀ u₀ v₀) (hsmall : Builtin.Range.small 0 b₀ 1 = true) (hn : Builtin.Range.rangeSize 0 b₀ 1 = (n : Int)) (F : Fr h₀ env.locals s.heap m₀) (N : News h₀ env.locals s.heap news) (hJ : J 0 m₀ news)
    (turn : ∀ i t I it m nx h tk, i < n → J i m nx → (∀ p ∈ news, p.1 < I) → Fr h₀ env.locals h (fun y => if y = x then some (.int (i : Int) t) else m y) → News h₀ env.locals h ((I, it) :: nx) →
      wpAny (model prog w) A (execs body env) (FOne h₀ env.locals { s with heap := h, toks := tk } I it (J (i + 1)) Q) E { s with heap := h, toks := tk })
    (exit : ∀ m nx h tk, J n m nx → Fr h₀ env.locals h m → News h₀ env.locals h nx → Q .next { s with heap := h, toks := tk }) :
    wpAny (model prog w) A (pyIter (.ref r)) (fun it s₂ => LoopAtV prog w A h₀ env x body Q E it s₂) E s :=
  for_range J hh hr hsmall hn F N hJ (fun i t I it m nx h tk hi hj hl F' N' => wpAny_mono (turn i t I it m nx h tk hi hj hl F' N') (fun f s₂ q => by cases f <;> exact q) fun _ _ x => x) exit
def RdJ (wend : Nat → Nat) (x : Str) (m₀ : Str → Option Value) (lA : Addr) (news : List (Addr × Obj)) (i : Nat) (m : Str → Option Value) (nx : List (Addr × Obj)) : Prop :=
  ∃ (j : Nat) (t : Tok) (sv tv : Option Value) (its : Array Value) (k : Nat) (ws : List Str), m = thr "place" "stop" "turn" (.int j t) sv tv m₀ ∧ nx = (lA, listOf its k) :: news ∧ StrsAre its ws ∧ ws.length ≤ i ∧ i ≤ j ∧ j ≤ x.length ∧ rdF wend x (x.length + 1 - i) j ws = readR wend x
theorem rd_loop {body : List Stmt} {r : Addr} {t₀ u₀ v₀ : Tok} {m : Str → Option Value} {lA : Addr} {news : List (Addr × Obj)} {t : Tok} (wend : Nat → Nat) (x : Str) (hx : x.length ≤ 19)
    (hh : A.handled = none) (hr : IsRange s.heap r 0 20 1 t₀ u₀ v₀) (F : Fr h₀ env.locals s.heap m) (N : News h₀ env.locals s.heap ((lA, listOf #[] 0) :: news)) (hpos : m "place" = some (.int (cEnd x 0 : Nat) t))
    (turn : ∀ i t I it m₁ nx h tk, i < 20 → RdJ wend x m lA news i m₁ nx → (∀ p ∈ (lA, listOf #[] 0) :: news, p.1 < I) → Fr h₀ env.locals h (fun y => if y = "turn" then some (.int (i : Int) t) else m₁ y) → News h₀ env.locals h ((I, it) :: nx) →
      wpAny (model prog w) A (execs body env) (FOne h₀ env.locals { s with heap := h, toks := tk } I it (RdJ wend x m lA news (i + 1)) Q) E { s with heap := h, toks := tk }) :
    wpAny (model prog w) A (pyIter (.ref r)) (fun it s₂ => LoopAtV prog w A h₀ env "turn" body Q E it s₂) E s :=
  for_rangeF (n := 20) (RdJ wend x m lA news) hh hr rfl rfl F N ⟨cEnd x 0, t, _, _, #[], 0, [], thr_init hpos, rfl, StrsAre.nil, Nat.zero_le _, Nat.zero_le _, cEnd_le (Nat.zero_le _), rfl⟩ turn
    (fun m₁ nx h tk hj _ _ => by obtain ⟨j, _, _, _, _, _, _, _, _, _, _, h1, h2, _⟩ := hj; omega)
end
theorem comma_byes {x : Str} {j : Nat} (h : (j : Int) < x.length) (e : (Txt.item x (j : Int) != Str.ofString ",") = false) : x.cps.getD j 0 = 44 :=
  comma_yes h (by simpa [bne] using e)
theorem comma_bno {x : Str} {j : Nat} (h : (j : Int) < x.length) (e : (Txt.item x (j : Int) != Str.ofString ",") = true) : x.cps.getD j 0 ≠ 44 :=
  comma_no h (by simpa [bne] using e)
section
local macro_rules | `(tactic| walk_at "pyIter ref") => `(tactic| refine Hold.out ?_)
theorem c_read_f {prog : Program} {w : World} {p : Program} {loose : List Str} {mean : ExcName → Option Value} {mg mb : Str → Option Value}
  (x : Str) (tx : Tok) (hx : x.length ≤ 19) :
  Cx prog w p loose mean mg mb 4 [.str x tx, .bool false] 233 fun h₀ L m news s Q E =>
   (∀ (lA : Addr) (its : Array Value) (n : Nat) (ws : List Str) (h' : Heap) (tk' : Nat), readR (wEnd x) x = .ok ws → StrsAre its ws → Fr h₀ L h' m → News h₀ L h' ((lA, listOf its n) :: news) → (∀ p ∈ news, p.1 < lA) → Q (.ref lA) { s with heap := h', toks := tk' }) ∧
   (∀ (k : Nat) (t : Tok) (h' : Heap) (tk' : Nat), readR (wEnd x) x = .error k → Fr h₀ L h' m → News h₀ L h' news → Q (.int k t) { s with heap := h', toks := tk' }) := by
  rintro dp un gd cn cs a ccd cl outer A₀ base h₀ L m news s Q E B F X N T hk hd hu ⟨hret, hexc⟩
  refine wpAny_call ?_
  (k_dflt cell_enter)
  have hc0 := cEnd_le (x := x) (i := 0) (Nat.zero_le _)
  k_steps
  rename Fr _ _ _ _ => kF
  rename News _ _ _ _ => kN
  rename IsRange _ _ _ _ _ _ _ _ => kR
  refine Hold.mk (rd_loop (wEnd x) x hx rfl kR kF kN rfl ?_)
  intro i t I it m₁ nx h tk hi hJ lI F1 N1
  obtain ⟨j, t, sv, tv, its, k, ws, rfl, rfl, hS, hw, hij, hj, hR⟩ := hJ
  obtain ⟨n', hn'⟩ : ∃ n', x.length + 1 - i = n' + 1 := ⟨x.length - i, by omega⟩
  have hn2 : x.length + 1 - (i + 1) = n' := by omega
  rw [hn'] at hR
  have hsz := hS.size
  have hw1 := wEnd_ge x j
  have hw2 := wEnd_le hj
  have hb1 := bEnd_ge x (wEnd x j)
  have hb2 := bEnd_le hw2
  have hc1 := cEnd_ge x (bEnd x (wEnd x j))
  have hc2 := cEnd_le hb2
  have hsl := slice_nat (x := x) hw1 hw2
  have hS2 : ∀ t', StrsAre (its.push (.str (Txt.slice x (some (j : Int)) (some (wEnd x j : Nat))) t')) (ws ++ [⟨x.cps.extract j (wEnd x j)⟩]) := fun t' => by rw [← hsl]; exact hS.push _ _
  k_lt lI
  have lI2 := lI
  k_steps
  · unfold FOne
    dsimp only
    k_steps
    rename Fr h₀ _ _ _ => kF2
    rename News h₀ _ _ _ => kN2
    exact hexc j _ _ _ (by rw [← hR]; unfold rdF; rw [if_pos (by omega)]) kF2 (fun p hp => kN2 p (List.mem_cons_of_mem _ (List.mem_cons_of_mem _ hp)))
  · unfold FOne
    dsimp only
    k_steps
    rename Fr h₀ _ _ _ => kF2
    rename News h₀ _ _ _ => kN2
    exact hexc (bEnd x (wEnd x j)) _ _ _ (by rw [← hR]; unfold rdF; rw [if_neg (by omega), if_neg (by omega), if_neg (comma_bno (by assumption) (by assumption))]) kF2 (fun p hp => kN2 p (List.mem_cons_of_mem _ (List.mem_cons_of_mem _ hp)))
  · unfold FOne
    dsimp only
    k_steps
    rename Fr h₀ _ _ _ => kF2
    rename News h₀ _ _ _ => kN2
    exact hret _ _ _ _ _ _ (by rw [← hR]; unfold rdF; rw [if_neg (by omega), if_neg (by omega), if_pos (comma_byes (by assumption) (by assumption)), if_pos (by omega)]) (hS2 _) kF2 (fun p hp => kN2 p (List.mem_cons_of_mem _ hp)) (by assumption)
  · rename Fr _ _ _ _ => kF2
    rename News _ _ _ _ => kN2
    exact FOne.of kF2 kN2 (fun _ h => h) (fun p hp => Nat.ne_of_lt (lt_of_all (l := (_, listOf _ _) :: news) lI2 p hp)) ⟨cEnd x (bEnd x (wEnd x j)), _, _, _, _, _, _, thr_turn, rfl, hS2 _, by rw [List.length_append, List.length_singleton]; omega, by omega, hc2, by rw [hn2, ← hR]; conv => rhs; unfold rdF; rw [if_neg (by omega), if_neg (by omega), if_pos (comma_byes (by assumption) (by assumption)), if_neg (by omega)]⟩
  · unfold FOne
    dsimp only
    k_steps
    rename Fr h₀ _ _ _ => kF2
    rename News h₀ _ _ _ => kN2
    exact hret _ _ _ _ _ _ (by rw [← hR]; unfold rdF; rw [if_neg (by omega), if_pos (by omega)]) (hS2 _) kF2 (fun p hp => kN2 p (List.mem_cons_of_mem _ hp)) (by assumption)
  · exfalso; omega
theorem c_read_t {prog : Program} {w : World} {p : Program} {loose : List Str} {mean : ExcName → Option Value} {mg mb : Str → Option Value}
  (x : Str) (tx : Tok) (hx : x.length ≤ 19) :
  Cx prog w p loose mean mg mb 4 [.str x tx, .bool true] 233 fun h₀ L m news s Q E =>
   (∀ (lA : Addr) (its : Array Value) (n : Nat) (ws : List Str) (h' : Heap) (tk' : Nat), readR (uEnd x) x = .ok ws → StrsAre its ws → Fr h₀ L h' m → News h₀ L h' ((lA, listOf its n) :: news) → (∀ p ∈ news, p.1 < lA) → Q (.ref lA) { s with heap := h', toks := tk' }) ∧
   (∀ (k : Nat) (t : Tok) (h' : Heap) (tk' : Nat), readR (uEnd x) x = .error k → Fr h₀ L h' m → News h₀ L h' news → Q (.int k t) { s with heap := h', toks := tk' }) := by
  rintro dp un gd cn cs a ccd cl outer A₀ base h₀ L m news s Q E B F X N T hk hd hu ⟨hret, hexc⟩
  refine wpAny_call ?_
  (k_dflt cell_enter)
  have hc0 := cEnd_le (x := x) (i := 0) (Nat.zero_le _)
  k_steps
  rename Fr _ _ _ _ => kF
  rename News _ _ _ _ => kN
  rename IsRange _ _ _ _ _ _ _ _ => kR
  refine Hold.mk (rd_loop (uEnd x) x hx rfl kR kF kN rfl ?_)
  intro i t I it m₁ nx h tk hi hJ lI F1 N1
  obtain ⟨j, t, sv, tv, its, k, ws, rfl, rfl, hS, hw, hij, hj, hR⟩ := hJ
  obtain ⟨n', hn'⟩ : ∃ n', x.length + 1 - i = n' + 1 := ⟨x.length - i, by omega⟩
  have hn2 : x.length + 1 - (i + 1) = n' := by omega
  rw [hn'] at hR
  have hsz := hS.size
  have hw1 := uEnd_ge x j
  have hw2 := uEnd_le hj
  have hb1 := bEnd_ge x (uEnd x j)
  have hb2 := bEnd_le hw2
  have hc1 := cEnd_ge x (bEnd x (uEnd x j))
  have hc2 := cEnd_le hb2
  have hsl := slice_nat (x := x) hw1 hw2
  have hS2 : ∀ t', StrsAre (its.push (.str (Txt.slice x (some (j : Int)) (some (uEnd x j : Nat))) t')) (ws ++ [⟨x.cps.extract j (uEnd x j)⟩]) := fun t' => by rw [← hsl]; exact hS.push _ _
  k_lt lI
  have lI2 := lI
  k_steps
  · unfold FOne
    dsimp only
    k_steps
    rename Fr h₀ _ _ _ => kF2
    rename News h₀ _ _ _ => kN2
    exact hexc j _ _ _ (by rw [← hR]; unfold rdF; rw [if_pos (by omega)]) kF2 (fun p hp => kN2 p (List.mem_cons_of_mem _ (List.mem_cons_of_mem _ hp)))
  · unfold FOne
    dsimp only
    k_steps
    rename Fr h₀ _ _ _ => kF2
    rename News h₀ _ _ _ => kN2
    exact hexc (bEnd x (uEnd x j)) _ _ _ (by rw [← hR]; unfold rdF; rw [if_neg (by omega), if_neg (by omega), if_neg (comma_bno (by assumption) (by assumption))]) kF2 (fun p hp => kN2 p (List.mem_cons_of_mem _ (List.mem_cons_of_mem _ hp)))
  · unfold FOne
    dsimp only
    k_steps
    rename Fr h₀ _ _ _ => kF2
    rename News h₀ _ _ _ => kN2
    exact hret _ _ _ _ _ _ (by rw [← hR]; unfold rdF; rw [if_neg (by omega), if_neg (by omega), if_pos (comma_byes (by assumption) (by assumption)), if_pos (by omega)]) (hS2 _) kF2 (fun p hp => kN2 p (List.mem_cons_of_mem _ hp)) (by assumption)
  · rename Fr _ _ _ _ => kF2
    rename News _ _ _ _ => kN2
    exact FOne.of kF2 kN2 (fun _ h => h) (fun p hp => Nat.ne_of_lt (lt_of_all (l := (_, listOf _ _) :: news) lI2 p hp)) ⟨cEnd x (bEnd x (uEnd x j)), _, _, _, _, _, _, thr_turn, rfl, hS2 _, by rw [List.length_append, List.length_singleton]; omega, by omega, hc2, by rw [hn2, ← hR]; conv => rhs; unfold rdF; rw [if_neg (by omega), if_neg (by omega), if_pos (comma_byes (by assumption) (by assumption)), if_neg (by omega)]⟩
  · unfold FOne
    dsimp only
    k_steps
    rename Fr h₀ _ _ _ => kF2
    rename News h₀ _ _ _ => kN2
    exact hret _ _ _ _ _ _ (by rw [← hR]; unfold rdF; rw [if_neg (by omega), if_pos (by omega)]) (hS2 _) kF2 (fun p hp => kN2 p (List.mem_cons_of_mem _ hp)) (by assumption)
  · exfalso; omega
end
end
local macro_rules | `(tactic| walk_at "call ref") => `(tactic| (k_here; (with_reducible show wpAny _ _ (call (Value.ref 233) [_, Value.bool false]) _ _ _); k_dflt (refine' Cx.use (c_read_f _ _ ?g) ?B ?F ?X ?N ?T ?hk ?hd ?hu ?_; (case g => first | assumption | omega); (case B => k_asm); (case F => k_asm); (case X => k_asm); (case N => k_asm); (case T => k_asm); (case hk => first | exact rfl | assumption); (case hd => ktr_room); (case hu => ktr_units)); refine And.intro (fun lA9 its9 n9 ws9 h9 tk9 ok9 S9 F9 N9 l9 => ?_) (fun k9 t9 h9 tk9 err9 F9 N9 => ?_); (try k_lt l9); (try dsimp only)))
local macro_rules | `(tactic| walk_at "call ref") => `(tactic| (k_here; (with_reducible show wpAny _ _ (call (Value.ref 233) [_, Value.bool true]) _ _ _); k_dflt (refine' Cx.use (c_read_t _ _ ?g) ?B ?F ?X ?N ?T ?hk ?hd ?hu ?_; (case g => first | assumption | omega); (case B => k_asm); (case F => k_asm); (case X => k_asm); (case N => k_asm); (case T => k_asm); (case hk => first | exact rfl | assumption); (case hd => ktr_room); (case hu => ktr_units)); refine And.intro (fun lA9 its9 n9 ws9 h9 tk9 ok9 S9 F9 N9 l9 => ?_) (fun k9 t9 h9 tk9 err9 F9 N9 => ?_); (try k_lt l9); (try dsimp only)))
theorem fresh20 : True := by
  w_top off
  trivial
section
theorem qScan_le {text : Array Nat} {lim : Nat} : ∀ (f p : Nat) {e : Nat}, qScan text lim f p = some e → p < e ∧ e ≤ lim := by
  intro f
  induction f with
  | zero => intro p e h; cases h
  | succ f ih =>
    intro p e h
    unfold qScan at h
    split at h
    · split at h
      · have := ih _ h; omega
      · split at h
        · have := ih _ h; omega
        · split at h
          · cases h; omega
          · cases h
    · cases h
theorem qFind_le {text : Array Nat} {lim p e : Nat} (h : qFind text lim p = some e) : p + 2 ≤ e ∧ e ≤ lim := by
  unfold qFind at h
  split at h
  · have := qScan_le _ _ h; omega
  · cases h
theorem qFind_len {x : Str} {i e : Nat} (h : qFind x.cps x.length i = some e) (hx : x.length ≤ 100) : (⟨x.cps.extract i e⟩ : Str).length ≤ 100 ∧ 2 ≤ (⟨x.cps.extract i e⟩ : Str).length := by
  have := qFind_le h
  have hs : x.cps.size = x.length := rfl
  show (x.cps.extract i e).size ≤ 100 ∧ 2 ≤ (x.cps.extract i e).size
  rw [Array.size_extract]
  omega
theorem ext_ext (a : Array Nat) (i e p q : Nat) (h : i + q ≤ e) : (a.extract i e).extract p q = a.extract (i + p) (i + q) := by
  apply Array.ext
  · simp only [Array.size_extract]; omega
  · intro j h1 h2
    simp only [Array.getElem_extract]
    congr 1
    omega
theorem qs_slice {x : Str} {i e : Nat} (h : qFind x.cps x.length i = some e) (hx : x.length ≤ 100) : Txt.slice ⟨x.cps.extract i e⟩ (some 1) (some (-1)) = ⟨x.cps.extract (i + 1) (e - 1)⟩ ∧ (⟨x.cps.extract (i + 1) (e - 1)⟩ : Str).length ≤ 100 := by
  have hl := qFind_le h
  have hs : x.cps.size = x.length := rfl
  have h1 := qFind_len h hx
  have h2 : (⟨x.cps.extract i e⟩ : Str).length = e - i := by show (x.cps.extract i e).size = e - i; rw [Array.size_extract]; omega
  constructor
  · rw [slice_in h1.2, h2]
    congr 1
    show (x.cps.extract i e).extract 1 (e - i - 1) = _
    rw [ext_ext _ _ _ _ _ (by omega)]
    congr 1
    omega
  · show (x.cps.extract (i + 1) (e - 1)).size ≤ 100
    rw [Array.size_extract]; omega
/-- what parse_quoted_string gives back, the text between the quotes turned -/
def qsOut (x : Str) (i e : Nat) : Str := Txt.join ⟨#[]⟩ (subGo (uF (x.cps.extract (i + 1) (e - 1))) id (x.cps.extract (i + 1) (e - 1)) ((x.cps.extract (i + 1) (e - 1)).size + 1) 0)
section
variable {prog : Program} {w : World} {A : Around} {E : Value → Shared → Prop} {s : Shared} {h₀ : Heap} {L : Addr} {m : Str → Option Value} {news : List (Addr × Obj)}
theorem qs_call {k : Int} {i : Nat} {x : Str} {t u : Tok} {Q : Value → Shared → Prop} (hki : k = i) (X : (hd.heap_39 w.params).In h₀) (F : Fr h₀ L s.heap m) (N : News h₀ L s.heap news) (hi : i ≤ x.length) (hx : x.length ≤ 100)
    (hyes : ∀ e h' M T, qFind x.cps x.length i = some e → Fr h₀ L h' m → News h₀ L h' ((M, matchObj x t 89 i x.length (-1) T) :: (T, tupObj [rawInt i, rawInt (e : Nat)]) :: news) → (∀ p ∈ news, p.1 < T) → T < M → Q (.ref M) { s with heap := h' })
    (hno : qFind x.cps x.length i = none → Q .none s) :
    wpAny (model prog w) A (call (.builtin "re.Pattern.match") [.ref 89, .str x t, .int k u]) Q E s := by
  subst hki
  have hm := qs_match (text := x.cps) (pos := i) (lim := x.length) hi (by omega)
  cases hq : qFind x.cps x.length i with
  | none => rw [hq] at hm; exact call_match (k := 300000) (res := none) (pat_qs X) F N hi (by omega) hm (by omega) (fun e he => by cases he) (fun _ => hno hq)
  | some e => rw [hq] at hm; exact call_match (k := 300000) (res := some e) (pat_qs X) F N hi (by omega) hm (by omega) (fun e he h' M T F' N' l1 l2 => by cases he; exact hyes _ h' M T hq F' N' l1 l2) (fun e => by cases e)
end
section
local macro_rules | `(tactic| walk_at "call builtin:re.Pattern.match") => `(tactic| (k_here; k_dflt (refine' qs_call rfl ?X ?F ?N ?a ?b ?yes ?no; (case X => k_asm); (case F => k_asm); (case N => k_asm); (case a => assumption); (case b => assumption)); (case' yes => k_whole; intro e' h' M' T' eq' F' N' l1 l2; (have le9 := qFind_len eq' (by assumption)); (try k_lt l1); (try k_lt2 l2); (try k_sweep)); (case' no => k_whole; intro eq')))
local macro_rules | `(tactic| walk_at "getMethod ref") => `(tactic| (k_here; (with_reducible show wpAny _ _ (getMethod (Value.ref _) (PySem.Str.ofString "sub") _) _ _ _); k_dflt (refine' getMethod_pat (g := 1) ?I ?F slot_sub type_sub ?_; (case I => first | exact pat_uq (by k_asm) | exact pat_qt (by k_asm)); (case F => k_asm); k_whole)))
local macro_rules | `(tactic| walk_at "call builtin:re.Pattern.sub") => `(tactic| refine Hold.out ?_)
local macro_rules | `(tactic| k_updF) => `(tactic| (refine' UpdF.head ?a; (case a => assumption)))
local macro_rules | `(tactic| walk_at "call ref") => `(tactic| (k_here; kn_here; k_dflt (refine wpAny_call ?_; refine' kla_code ?k1 ?k2 ?k3 ?k4 ?k5 ?kA ?kF ?kK ?k6 ?k7 ?k8 ?k9 ?kB ?_ ?c2 ?c3 ?c4 ?c5; (case kA => exact rfl); (case kF => exact rfl); (case kK => exact rfl); (case k1 => k_asm); (case k2 => k_asm); (case k3 => k_asm); (case k4 => k_asm); (case k5 => k_asm); (case k6 => k_mem); (case k7 => exact codeRec_news (by k_asm) (by k_mem) (by assumption) (by assumption)); (case k8 => ktr_room); (case k9 => exact rfl); (case c5 => decide); (case kB => exact locs rfl); (case c2 => exact rfl); (case c3 => exact rfl); (case c4 => exact rfl); k_whole; intro g' L' h' FG' F' N' B' X' T'; (try dsimp only); (try k_lift B'); (try k_fold))))
local macro_rules | `(tactic| walk_at "call builtin:re.Match.group") => `(tactic| (k_here; (with_reducible show wpAny _ _ (call (Value.builtin _) [_, _]) _ _ _); k_dflt (refine' call_group1 ?N ?h ?t ?x ?_; (case N => k_asm); (case h => k_mem); (case t => k_mem); (case x => omega); k_whole); intro t9'))
theorem nil_cat (y : Str) : Str.ofString "" ++ y = y := by
  obtain ⟨c⟩ := y
  show (⟨#[] ++ c⟩ : Str) = ⟨c⟩
  rw [Array.empty_append]
theorem nil_of_len {y : Str} (h : (y.length : Int) = 0) : y = Str.ofString "" ++ Str.ofString "" := by
  obtain ⟨c⟩ := y
  have : c.size = 0 := by
    have h2 : ((c.size : Nat) : Int) = 0 := h
    omega
  rw [nil_cat]
  rw [Array.eq_empty_of_size_eq_zero this]
  rfl
/-- the lambda's code, as the table of its function's code holds it -/
def LamAt (nm : String) (oc : Obj) : Prop := ∃ vs t, oc.data = .fields vs ∧ vs[1]? = some (.str (Str.ofString nm ++ Str.ofString ".<locals>." ++ Str.ofString "<lambda>") t)
theorem news_lam {h₀ h : Heap} {L : Addr} {D f c M T P : Addr × Obj} {l : List (Addr × Obj)} (N : News h₀ L h (D :: f :: c :: M :: T :: P :: l)) : News h₀ L h (D :: c :: P :: l) := fun p hp => by
  rcases List.mem_cons.mp hp with rfl | hp
  · exact N _ (List.mem_cons_self ..)
  · rcases List.mem_cons.mp hp with rfl | hp
    · exact N _ (List.mem_cons_of_mem _ (List.mem_cons_of_mem _ (List.mem_cons_self ..)))
    · exact N p (List.mem_cons_of_mem _ (List.mem_cons_of_mem _ (List.mem_cons_of_mem _ (List.mem_cons_of_mem _ (List.mem_cons_of_mem _ hp)))))
theorem news_skip3 {h₀ h : Heap} {L : Addr} {D f M T : Addr × Obj} {l : List (Addr × Obj)} (N : News h₀ L h (D :: f :: M :: T :: l)) : News h₀ L h (D :: l) := fun p hp => by
  rcases List.mem_cons.mp hp with rfl | hp
  · exact N _ (List.mem_cons_self ..)
  · exact N p (List.mem_cons_of_mem _ (List.mem_cons_of_mem _ (List.mem_cons_of_mem _ (List.mem_cons_of_mem _ hp))))
theorem ext_size (a : Array Nat) (p q : Nat) : (⟨a.extract p q⟩ : Str).length ≤ (⟨a⟩ : Str).length := by
  show (a.extract p q).size ≤ a.size
  rw [Array.size_extract]; omega
theorem c_pqs1 {prog : Program} {w : World} {p : Program} {loose : List Str} {mean : ExcName → Option Value} {mg mb : Str → Option Value}
  (hpp : ProgOk prog) (x : Str) (tx : Tok) (k : Int) (i : Nat) (ti : Tok) (nm : Str) (tn : Tok) (hki : k = i) (hi : i ≤ x.length) (hx : x.length ≤ 100) (hnm : nm.length ≤ 100)
  (rest : List (Addr × Obj)) (hne : ∀ p ∈ rest, p.1 ≠ 96) (C0 : ∀ h₀ : Heap, (hd.heap_39 w.params).In h₀ → CodeHd h₀ 100 96) :
  CxE prog w p loose mean mg mb 5 [.str x tx, .int k ti, .str nm tn] 101 fun base h₀ L m l news s Q E =>
   news = (96, tabObj #[]) :: rest ∧
   (∀ (e : Nat) (T c' : Addr) (oc : Obj) (h' : Heap) (tk' : Nat) (t1 t2 : Tok), qFind x.cps x.length i = some e → LamAt "parse_quoted_string" oc → Fr h₀ L h' m → News h₀ L h' ((T, tupObj [.str (qsOut x i e) t1, .int (e : Nat) t2]) :: (c', oc) :: (96, tabObj #[rawInt 31, rawInt 28, .ref c']) :: rest) → AllLt c' ((96, tabObj #[]) :: rest) → AllLt T ((c', oc) :: (96, tabObj #[]) :: rest) → Q (.ref T) { s with heap := h', toks := tk' }) ∧
   (qFind x.cps x.length i = none → Owed base h₀ L m l news s E i) := by
  subst hki
  rintro dp un gd cn cs a ccd cl outer A₀ base h₀ L m news s Q E B F X N T hk hd hu ⟨rfl, hret, hexc⟩
  refine wpAny_call ?_
  (k_dflt cell_enter)
  have CC := C0 _ (by assumption)
  k_steps
  · rename Fr _ _ _ _ => kF
    rename News _ _ _ _ => kN
    rename Below _ _ _ _ => kB
    rename getL _ _ = _ => kg
    refine raise_end kB kF kN ?_ kg ?_ (fun _ h => h) ?_
    · assumption
    · assumption
    · intro h' fl
      exact hexc (by assumption) _ _ _ _ (by assumption) fl
  · rename Fr _ _ _ _ => kF
    rename News _ _ _ _ => kN
    rename (qFind _ _ _ = some _) => hq
    obtain ⟨q1, q2⟩ := qs_slice hq hx
    rw [q1]
    refine Hold.mk (call_sub (cb := id) (pat_uq (by assumption)) (uq_finds (Nat.le_trans q2 (by decide))) q2 (fun y => Nat.le_add_right _ _) kF kN (List.mem_cons_self ..) rfl (fun lP h tk M T st e a its k Q E g1 g2 F2 N2 l1 l2 l3 l4 K => ?_) (fun h' tk' tok F' N' => ?_))
    · have hga : (⟨(x.cps.extract (i + 1) (_ - 1)).extract a e⟩ : Str).length ≤ 100 := Nat.le_trans (ext_size ..) q2
      k_steps
      · rename Fr _ _ _ _ => kF2
        rename News _ _ _ _ => kN2
        rw [nil_cat]
        exact K _ _ _ kF2 (fun p hp => kN2 p (List.mem_cons_of_mem _ (List.mem_cons_of_mem _ hp)))
      · rename Fr _ _ _ _ => kF2
        rename News _ _ _ _ => kN2
        rename (_ : Int) = 0 => hz
        rw [← nil_of_len hz]
        exact K _ _ _ kF2 (fun p hp => kN2 p (List.mem_cons_of_mem _ (List.mem_cons_of_mem _ hp)))
    · k_steps
      rename Fr h₀ _ _ _ => kF2
      rename News h₀ _ _ _ => kN2
      rename _ ∧ _ ∧ _ ∧ _ ∧ _ ∧ AllLt _ _ => o2
      rename _ ∧ _ ∧ _ ∧ AllLt _ _ => o1
      rename (Obj.data _ = _) => d1
      exact hret _ _ _ _ _ _ _ _ hq ⟨_, _, d1, by assumption⟩ kF2 (news_lam kN2) ⟨o1.2.2.1, o1.2.2.2⟩ ⟨o2.2.1, o2.2.2.2.2.1, o2.2.2.2.2.2⟩
theorem c_pqs2 {prog : Program} {w : World} {p : Program} {loose : List Str} {mean : ExcName → Option Value} {mg mb : Str → Option Value}
  (hpp : ProgOk prog) (x : Str) (tx : Tok) (k : Int) (i : Nat) (ti : Tok) (nm : Str) (tn : Tok) (hki : k = i) (hi : i ≤ x.length) (hx : x.length ≤ 100) (hnm : nm.length ≤ 100)
  (rest : List (Addr × Obj)) (c' : Addr) (oc : Obj) (hoc : LamAt "parse_quoted_string" oc) (C0 : ∀ h₀ : Heap, (hd.heap_39 w.params).In h₀ → CodeHd h₀ 100 96) :
  CxE prog w p loose mean mg mb 5 [.str x tx, .int k ti, .str nm tn] 101 fun base h₀ L m l news s Q E =>
   news = (96, tabObj #[rawInt 31, rawInt 28, .ref c']) :: (c', oc) :: rest ∧
   (∀ (e : Nat) (T : Addr) (h' : Heap) (tk' : Nat) (t1 t2 : Tok), qFind x.cps x.length i = some e → Fr h₀ L h' m → News h₀ L h' ((T, tupObj [.str (qsOut x i e) t1, .int (e : Nat) t2]) :: news) → AllLt T news → Q (.ref T) { s with heap := h', toks := tk' }) ∧
   (qFind x.cps x.length i = none → Owed base h₀ L m l news s E i) := by
  subst hki
  rintro dp un gd cn cs a ccd cl outer A₀ base h₀ L m news s Q E B F X N T hk hd hu ⟨rfl, hret, hexc⟩
  refine wpAny_call ?_
  (k_dflt cell_enter)
  have CC := C0 _ (by assumption)
  obtain ⟨vsL, tL, d1L, d2L⟩ := hoc
  k_steps
  · rename Fr _ _ _ _ => kF
    rename News _ _ _ _ => kN
    rename Below _ _ _ _ => kB
    rename getL _ _ = _ => kg
    refine raise_end kB kF kN ?_ kg ?_ (fun _ h => h) ?_
    · assumption
    · assumption
    · intro h' fl
      exact hexc (by assumption) _ _ _ _ (by assumption) fl
  · rename Fr _ _ _ _ => kF
    rename News _ _ _ _ => kN
    rename (qFind _ _ _ = some _) => hq
    obtain ⟨q1, q2⟩ := qs_slice hq hx
    rw [q1]
    refine Hold.mk (call_sub (cb := id) (pat_uq (by assumption)) (uq_finds (Nat.le_trans q2 (by decide))) q2 (fun y => Nat.le_add_right _ _) kF kN (List.mem_cons_self ..) rfl (fun lP h tk M T st e a its k Q E g1 g2 F2 N2 l1 l2 l3 l4 K => ?_) (fun h' tk' tok F' N' => ?_))
    · have hga : (⟨(x.cps.extract (i + 1) (_ - 1)).extract a e⟩ : Str).length ≤ 100 := Nat.le_trans (ext_size ..) q2
      k_steps
      · rename Fr _ _ _ _ => kF2
        rename News _ _ _ _ => kN2
        rw [nil_cat]
        exact K _ _ _ kF2 (fun p hp => kN2 p (List.mem_cons_of_mem _ (List.mem_cons_of_mem _ hp)))
      · rename Fr _ _ _ _ => kF2
        rename News _ _ _ _ => kN2
        rename (_ : Int) = 0 => hz
        rw [← nil_of_len hz]
        exact K _ _ _ kF2 (fun p hp => kN2 p (List.mem_cons_of_mem _ (List.mem_cons_of_mem _ hp)))
    · k_steps
      rename Fr h₀ _ _ _ => kF2
      rename News h₀ _ _ _ => kN2
      rename _ ∧ _ ∧ _ ∧ _ ∧ _ ∧ AllLt _ _ => o2
      exact hret _ _ _ _ _ _ hq kF2 (news_skip3 kN2) ⟨o2.2.2.2.1, o2.2.2.2.2.1, o2.2.2.2.2.2⟩
end
end
theorem fresh21 : True := by
  w_top off
  trivial
section
/-- all signs may stand in a quoted string -/
def AllQp (x : Str) : Prop := ¬ runLen x.cps isQp x.length 0 < x.length
/-- what build_quoted_string gives back -/
def bqOut (x : Str) : Str := Str.ofString "\"" ++ Txt.join ⟨#[]⟩ (subGo (qF x.cps) (fun y => Str.ofString "\\" ++ y) x.cps (x.length + 1) 0) ++ Str.ofString "\""
section
variable {prog : Program} {w : World} {A : Around} {E : Value → Shared → Prop} {s : Shared} {h₀ : Heap} {L : Addr} {m : Str → Option Value} {news : List (Addr × Obj)}
theorem full_yes {x : Str} {t : Tok} {Q : Value → Shared → Prop} (hq : AllQp x) (X : (hd.heap_39 w.params).In h₀) (F : Fr h₀ L s.heap m) (N : News h₀ L s.heap news) (hx : x.length ≤ 100)
    (hyes : ∀ h' M T, Fr h₀ L h' m → News h₀ L h' ((M, matchObj x t 106 0 x.length (-1) T) :: (T, tupObj [rawInt ((0 : Nat) : Int), rawInt (x.length : Nat)]) :: news) → (∀ p ∈ news, p.1 < T) → T < M → Q (.ref M) { s with heap := h' }) :
    wpAny (model prog w) A (call (.builtin "re.Pattern.fullmatch") [.ref 106, .str x t]) Q E s := by
  have hm := quotable_full (text := x.cps) (lim := x.length) (by omega)
  rw [if_neg hq] at hm
  exact call_fullmatch (k := 4) (res := some x.length) (pat_quotable X) F N (by omega) hm (by omega) (fun e he h' M T F' N' l1 l2 => by cases he; exact hyes h' M T F' N' l1 l2) (fun e => by cases e)
theorem full_no {x : Str} {t : Tok} {Q : Value → Shared → Prop} (hq : ¬ AllQp x) (X : (hd.heap_39 w.params).In h₀) (F : Fr h₀ L s.heap m) (N : News h₀ L s.heap news) (hx : x.length ≤ 100)
    (hno : Q .none s) : wpAny (model prog w) A (call (.builtin "re.Pattern.fullmatch") [.ref 106, .str x t]) Q E s := by
  have hm := quotable_full (text := x.cps) (lim := x.length) (by omega)
  rw [if_pos (Decidable.not_not.mp hq)] at hm
  exact call_fullmatch (k := 2 * x.length + 6) (res := none) (pat_quotable X) F N (by omega) hm (by omega) (fun e he => by cases he) (fun _ => hno)
end
/-- what a ValueError that leaves a call owes its caller -/
abbrev OwedV (base h₀ : Heap) (L : Addr) (m : Str → Option Value) (l : List Env) (news : List (Addr × Obj)) (s : Shared) (E : Value → Shared → Prop) : Prop :=
  ∀ (e : Addr) (g : Heap) (h' : Heap) (tk : Nat), Fr h₀ L g m → RaisedSN base g l e (.type "ValueError") news h' → g.UpToSlots h' → E (.ref e) { s with heap := h', toks := tk }
section
local macro_rules | `(tactic| walk_at "getMethod ref") => `(tactic| (k_here; (with_reducible show wpAny _ _ (getMethod (Value.ref _) (PySem.Str.ofString "fullmatch") _) _ _ _); k_dflt (refine' getMethod_pat (g := 0) ?I ?F slot_fullmatch type_fullmatch ?_; (case I => exact pat_quotable (by k_asm)); (case F => k_asm); k_whole)))
local macro_rules | `(tactic| walk_at "getMethod ref") => `(tactic| (k_here; (with_reducible show wpAny _ _ (getMethod (Value.ref _) (PySem.Str.ofString "sub") _) _ _ _); k_dflt (refine' getMethod_pat (g := 1) ?I ?F slot_sub type_sub ?_; (case I => first | exact pat_uq (by k_asm) | exact pat_qt (by k_asm)); (case F => k_asm); k_whole)))
local macro_rules | `(tactic| walk_at "call builtin:re.Pattern.sub") => `(tactic| refine Hold.out ?_)
local macro_rules | `(tactic| k_updF) => `(tactic| (refine' UpdF.head ?a; (case a => assumption)))
local macro_rules | `(tactic| walk_at "call ref") => `(tactic| (k_here; kn_here; k_dflt (refine wpAny_call ?_; refine' kla_code ?k1 ?k2 ?k3 ?k4 ?k5 ?kA ?kF ?kK ?k6 ?k7 ?k8 ?k9 ?kB ?_ ?c2 ?c3 ?c4 ?c5; (case kA => exact rfl); (case kF => exact rfl); (case kK => exact rfl); (case k1 => k_asm); (case k2 => k_asm); (case k3 => k_asm); (case k4 => k_asm); (case k5 => k_asm); (case k6 => k_mem); (case k7 => exact codeRec_news (by k_asm) (by k_mem) (by assumption) (by assumption)); (case k8 => ktr_room); (case k9 => exact rfl); (case c5 => decide); (case kB => exact locs rfl); (case c2 => exact rfl); (case c3 => exact rfl); (case c4 => exact rfl); k_whole; intro g' L' h' FG' F' N' B' X' T'; (try dsimp only); (try k_lift B'); (try k_fold))))
local macro_rules | `(tactic| walk_at "call builtin:re.Match.group") => `(tactic| (k_here; (with_reducible show wpAny _ _ (call (Value.builtin _) [_, _]) _ _ _); k_dflt (refine' call_group1 ?N ?h ?t ?x ?_; (case N => k_asm); (case h => k_mem); (case t => k_mem); (case x => omega); k_whole); intro t9'))
local macro_rules | `(tactic| walk_at "leaving ref") => `(tactic| (k_here; k_dflt (refine' leave_newS ?k1 ?k0 ?k2 ?k3 ?_; (case k0 => assumption); (case k2 => assumption); (case k1 => assumption); (case k3 => k_asm); k_whole); intro h' S' R' U'; (try dsimp only at S' R' U' ⊢)))
theorem bs_len (y : Str) : (Str.ofString "\\" ++ y).length ≤ y.length + 10 := by
  obtain ⟨c⟩ := y
  show ((Str.ofString "\\").cps ++ c).size ≤ c.size + 10
  rw [Array.size_append]
  have : (Str.ofString "\\").cps.size = 1 := by decide +kernel
  omega
theorem sub_small {find : Nat → Option (Nat × Nat × Nat)} {cb : Str → Str} {text : Array Nat} (hcb : ∀ y, (cb y).length ≤ y.length + 10) (hf : ∀ d st a e, d ≤ text.size → find d = some (st, a, e) → d ≤ st ∧ st < e ∧ a ≤ e ∧ e ≤ text.size) :
    ∀ (f d : Nat), d ≤ text.size → (subGo find cb text f d).length ≤ 2 * (text.size - d) + 1 ∧ ∀ y ∈ subGo find cb text f d, y.length ≤ text.size + 10 := by
  intro f
  induction f with
  | zero => intro d _; exact ⟨by show (0 : Nat) ≤ _; omega, fun y hy => nomatch hy⟩
  | succ f ih =>
    intro d hd
    have ex : ∀ p q, (⟨text.extract p q⟩ : Str).length ≤ text.size := fun p q => by
      show (text.extract p q).size ≤ text.size
      rw [Array.size_extract]; omega
    unfold subGo
    cases hq : find d with
    | none =>
      dsimp only
      split
      · exact ⟨by simp, fun y hy => by rw [List.mem_singleton.mp hy]; have := ex d text.size; omega⟩
      · exact ⟨by simp, fun y hy => nomatch hy⟩
    | some v =>
      obtain ⟨st, a, e⟩ := v
      obtain ⟨h1, h2, h3, h4⟩ := hf d st a e hd hq
      obtain ⟨i1, i2⟩ := ih e h4
      dsimp only
      constructor
      · rw [List.length_append, List.length_append]
        have : (if d < st then [(⟨text.extract d st⟩ : Str)] else []).length ≤ 1 := by split <;> simp
        simp only [List.length_singleton]
        omega
      · intro y hy
        rcases List.mem_append.mp hy with hy | hy
        · rcases List.mem_append.mp hy with hy | hy
          · split at hy
            · rw [List.mem_singleton.mp hy]; have := ex d st; omega
            · cases hy
          · rw [List.mem_singleton.mp hy]
            have := hcb ⟨text.extract a e⟩
            have := ex a e
            omega
        · exact i2 y hy
theorem join_small {ws : List Str} {B n : Nat} (h : ∀ y ∈ ws, y.length ≤ B) (hn : ws.length ≤ n) : (Txt.join ⟨#[]⟩ ws).length ≤ n * B := by
  have h1 := StrLaws.join_length_le ⟨#[]⟩ ws
  have h2 := StrLaws.sumLen_le ws h
  have h3 : ws.length * B ≤ n * B := Nat.mul_le_mul_right _ hn
  have h4 : ws.length * (⟨#[]⟩ : Str).length = 0 := Nat.mul_zero _
  rw [h4] at h1
  show (Builtin.Str.glued ⟨#[]⟩ ws).length ≤ _
  rw [StrLaws.glued_eq_join]
  exact Nat.le_trans h1 (Nat.le_trans (Nat.le_of_eq (Nat.add_zero _)) (Nat.le_trans h2 h3))
theorem bq_len {x : Str} (hx : x.length ≤ 100) : (Txt.join ⟨#[]⟩ (subGo (qF x.cps) (fun y => Str.ofString "\\" ++ y) x.cps (x.length + 1) 0)).length ≤ 30000 := by
  have hs : x.cps.size = x.length := rfl
  obtain ⟨h1, h2⟩ := sub_small (find := qF x.cps) (cb := fun y => Str.ofString "\\" ++ y) (text := x.cps) bs_len (fun d st a e hd he => by
    unfold qF at he
    cases q : sFind x.cps x.cps.size (x.cps.size + 1 - d) d with
    | none => rw [q] at he; cases he
    | some v =>
      rw [q] at he
      cases he
      have := sFind_lt _ _ q
      omega) (x.length + 1) 0 (Nat.zero_le _)
  exact Nat.le_trans (join_small (B := 110) (n := 201) (fun y hy => Nat.le_trans (h2 y hy) (by omega)) (by omega)) (by decide)
theorem c_bqsE {prog : Program} {w : World} {p : Program} {loose : List Str} {mean : ExcName → Option Value} {mg mb : Str → Option Value}
  (x : Str) (tx : Tok) (hx : x.length ≤ 100) (hq : ¬ AllQp x) :
  CxE prog w p loose mean mg mb 4 [.str x tx] 118 fun base h₀ L m l news s Q E => OwedV base h₀ L m l news s E := by
  rintro dp un gd cn cs a ccd cl outer A₀ base h₀ L m news s Q E B F X N T hk hd hu hexc
  refine wpAny_call ?_
  (k_dflt cell_enter)
  k_steps
  k_dflt (refine full_no hq (by assumption) (by assumption) (by assumption) hx ?_)
  k_steps
  exact hexc _ _ _ _ (by assumption) (by assumption) (by assumption)
local macro_rules | `(tactic| walk_at "call builtin:re.Pattern.fullmatch") => `(tactic| (k_here; k_dflt (refine' full_yes ?q ?X ?F ?N ?x ?_; (case q => assumption); (case X => k_asm); (case F => k_asm); (case N => k_asm); (case x => assumption); k_whole); intro h' M' T' F' N' l1 l2; (try k_lt l1); (try k_lt2 l2); (try k_sweep)))
theorem news_lam2 {h₀ h : Heap} {L : Addr} {f c M T P : Addr × Obj} {l : List (Addr × Obj)} (N : News h₀ L h (f :: c :: M :: T :: P :: l)) : News h₀ L h (c :: P :: l) := fun p hp => by
  rcases List.mem_cons.mp hp with rfl | hp
  · exact N _ (List.mem_cons_of_mem _ (List.mem_cons_self ..))
  · exact N p (List.mem_cons_of_mem _ (List.mem_cons_of_mem _ (List.mem_cons_of_mem _ (List.mem_cons_of_mem _ hp))))
theorem c_bqs1 {prog : Program} {w : World} {p : Program} {loose : List Str} {mean : ExcName → Option Value} {mg mb : Str → Option Value}
  (x : Str) (tx : Tok) (hx : x.length ≤ 100) (hq : AllQp x) (rest : List (Addr × Obj)) (hne : ∀ p ∈ rest, p.1 ≠ 113) (C0 : ∀ h₀ : Heap, (hd.heap_39 w.params).In h₀ → CodeHd h₀ 117 113) :
  CxE prog w p loose mean mg mb 4 [.str x tx] 118 fun base h₀ L m l news s Q E =>
   news = (113, tabObj #[]) :: rest ∧
   (∀ (c' : Addr) (oc : Obj) (h' : Heap) (tk' : Nat) (t1 : Tok), LamAt "build_quoted_string" oc → Fr h₀ L h' m → News h₀ L h' ((c', oc) :: (113, tabObj #[rawInt 38, rawInt 31, .ref c']) :: rest) → AllLt c' ((113, tabObj #[]) :: rest) → Q (.str (bqOut x) t1) { s with heap := h', toks := tk' }) := by
  rintro dp un gd cn cs a ccd cl outer A₀ base h₀ L m news s Q E B F X N T hk hd hu ⟨rfl, hret⟩
  refine wpAny_call ?_
  (k_dflt cell_enter)
  have CC := C0 _ (by assumption)
  k_steps
  rename Fr _ _ _ _ => kF
  rename News _ _ _ _ => kN
  refine Hold.mk (call_sub (cb := fun y => Str.ofString "\\" ++ y) (pat_qt (by assumption)) (qt_finds (Nat.le_trans hx (by decide))) hx (fun y => bs_len y) kF kN (List.mem_cons_self ..) rfl (fun lP h tk M T st e a its k Q E g1 g2 F2 N2 l1 l2 l3 l4 K => ?_) (fun h' tk' tok F' N' => ?_))
  · have hga : (⟨x.cps.extract a e⟩ : Str).length ≤ 100 := Nat.le_trans (ext_size ..) hx
    k_steps
    · rename Fr _ _ _ _ => kF2
      rename News _ _ _ _ => kN2
      exact K _ _ _ kF2 (fun p hp => kN2 p (List.mem_cons_of_mem _ (List.mem_cons_of_mem _ hp)))
    · rename Fr _ _ _ _ => kF2
      rename News _ _ _ _ => kN2
      rename (_ : Int) = 0 => hz
      have hz2 := nil_of_len hz
      rw [nil_cat] at hz2
      rw [← hz2]
      exact K _ _ _ kF2 (fun p hp => kN2 p (List.mem_cons_of_mem _ (List.mem_cons_of_mem _ hp)))
  · have hjl := bq_len hx
    k_steps
    rename Fr h₀ _ _ _ => kF2
    rename News h₀ _ _ _ => kN2
    rename _ ∧ _ ∧ _ ∧ AllLt _ _ => o1
    rename (Obj.data _ = _) => d1
    exact hret _ _ _ _ _ ⟨_, _, d1, by assumption⟩ kF2 (news_lam2 kN2) ⟨o1.2.2.1, o1.2.2.2⟩
theorem c_bqs2 {prog : Program} {w : World} {p : Program} {loose : List Str} {mean : ExcName → Option Value} {mg mb : Str → Option Value}
  (x : Str) (tx : Tok) (hx : x.length ≤ 100) (hq : AllQp x) (rest : List (Addr × Obj)) (c' : Addr) (oc : Obj) (hoc : LamAt "build_quoted_string" oc) (C0 : ∀ h₀ : Heap, (hd.heap_39 w.params).In h₀ → CodeHd h₀ 117 113) :
  CxE prog w p loose mean mg mb 4 [.str x tx] 118 fun base h₀ L m l news s Q E =>
   news = (113, tabObj #[rawInt 38, rawInt 31, .ref c']) :: (c', oc) :: rest ∧
   (∀ (h' : Heap) (tk' : Nat) (t1 : Tok), Fr h₀ L h' m → News h₀ L h' news → Q (.str (bqOut x) t1) { s with heap := h', toks := tk' }) := by
  rintro dp un gd cn cs a ccd cl outer A₀ base h₀ L m news s Q E B F X N T hk hd hu ⟨rfl, hret⟩
  refine wpAny_call ?_
  (k_dflt cell_enter)
  have CC := C0 _ (by assumption)
  obtain ⟨vsL, tL, d1L, d2L⟩ := hoc
  k_steps
  rename Fr _ _ _ _ => kF
  rename News _ _ _ _ => kN
  refine Hold.mk (call_sub (cb := fun y => Str.ofString "\\" ++ y) (pat_qt (by assumption)) (qt_finds (Nat.le_trans hx (by decide))) hx (fun y => bs_len y) kF kN (List.mem_cons_self ..) rfl (fun lP h tk M T st e a its k Q E g1 g2 F2 N2 l1 l2 l3 l4 K => ?_) (fun h' tk' tok F' N' => ?_))
  · have hga : (⟨x.cps.extract a e⟩ : Str).length ≤ 100 := Nat.le_trans (ext_size ..) hx
    k_steps
    · rename Fr _ _ _ _ => kF2
      rename News _ _ _ _ => kN2
      exact K _ _ _ kF2 (fun p hp => kN2 p (List.mem_cons_of_mem _ (List.mem_cons_of_mem _ hp)))
    · rename Fr _ _ _ _ => kF2
      rename News _ _ _ _ => kN2
      rename (_ : Int) = 0 => hz
      have hz2 := nil_of_len hz
      rw [nil_cat] at hz2
      rw [← hz2]
      exact K _ _ _ kF2 (fun p hp => kN2 p (List.mem_cons_of_mem _ (List.mem_cons_of_mem _ hp)))
  · have hjl := bq_len hx
    k_steps
    rename Fr h₀ _ _ _ => kF2
    rename News h₀ _ _ _ => kN2
    exact hret _ _ _ kF2 (fun p hp => kN2 p (List.mem_cons_of_mem _ (List.mem_cons_of_mem _ (List.mem_cons_of_mem _ hp))))
end
end
theorem fresh22 : True := by
  w_top off
  trivial
section
section
local macro_rules | `(tactic| walk_at "call ref") => `(tactic| (k_here; (with_reducible show wpAny _ _ (call (Value.ref 118) [_]) _ _ _); k_dflt (refine' CxE.use (c_bqs1 _ _ ?x ?q _ ?ne ?c0) ?B ?F ?X ?N ?T ?hk ?hd ?hu ?_; (case x => assumption); (case q => assumption); (case ne => assumption); (case c0 => assumption); (case B => k_asm); (case F => k_asm); (case X => k_asm); (case N => k_asm); (case T => k_asm); (case hk => first | exact rfl | assumption); (case hd => ktr_room); (case hu => ktr_units)); refine And.intro rfl (fun c9 oc9 h9 tk9 t9 L9 F9 N9 l9 => ?_); (try dsimp only)))
local macro_rules | `(tactic| walk_at "call ref") => `(tactic| (k_here; (with_reducible show wpAny _ _ (call (Value.ref 118) [_]) _ _ _); k_dflt (refine' CxE.use (c_bqs2 _ _ ?x ?q ?rs ?cc _ ?oc ?c0) ?B ?F ?X ?N ?T ?hk ?hd ?hu (And.intro rfl ?_); (case x => assumption); (case q => assumption); (case oc => assumption); (case c0 => assumption); (case B => k_asm); (case F => k_asm); (case X => k_asm); (case N => k_asm); (case T => k_asm); (case hk => first | exact rfl | assumption); (case hd => ktr_room); (case hu => ktr_units)); refine (fun h9 tk9 t9 F9 N9 => ?_); (try dsimp only)))
local macro_rules | `(tactic| walk_at "call ref") => `(tactic| (k_here; (with_reducible show wpAny _ _ (call (Value.ref 118) [_]) _ _ _); k_dflt (refine' CxE.use (c_bqsE _ _ ?x ?q) ?B ?F ?X ?N ?T ?hk ?hd ?hu ?_; (case x => assumption); (case q => assumption); (case B => k_asm); (case F => k_asm); (case X => k_asm); (case N => k_asm); (case T => k_asm); (case hk => first | exact rfl | assumption); (case hd => ktr_room); (case hu => ktr_units)); refine Hold.out ?_))
theorem c_quotes1 {prog : Program} {w : World} {p : Program} {loose : List Str} {mean : ExcName → Option Value} {mg mb : Str → Option Value}
  (x : Str) (tx : Tok) (hx : x.length ≤ 100) (hq : AllQp x) (rest : List (Addr × Obj)) (hne : ∀ p ∈ rest, p.1 ≠ 113) (C0 : ∀ h₀ : Heap, (hd.heap_39 w.params).In h₀ → CodeHd h₀ 117 113) :
  CxT prog w p loose mean mg mb 6 [.str x tx] 261 fun h₀ L m news s Q E =>
   news = (113, tabObj #[]) :: rest ∧
   (∀ (c' : Addr) (oc : Obj) (h' : Heap) (tk' : Nat) (t1 : Tok), LamAt "build_quoted_string" oc → Fr h₀ L h' m → News h₀ L h' ((c', oc) :: (113, tabObj #[rawInt 38, rawInt 31, .ref c']) :: rest) → AllLt c' ((113, tabObj #[]) :: rest) → Q (.str (bqOut x) t1) { s with heap := h', toks := tk' }) := by
  rintro dp un gd cn cs a ccd cl A₀ h₀ L m news s Q E B F X N T hk hd hu ⟨rfl, hret⟩
  refine wpAny_call ?_
  k_dflt (refine' code_S0X ?k1 ?k2 ?k3 ?k4 ?k5 ?kA ?kF ?kK ?k6 ?k7 ?k8 ?k9 ?kB ?_ ?c2 ?c3 ?c4 ?c5; (case kA => exact rfl); (case kF => exact rfl); (case kK => assumption); (case k1 => k_asm); (case k2 => k_asm); (case k3 => k_asm); (case k4 => k_asm); (case k5 => k_asm); (case k6 => k_is); (case k7 => k_is); (case k8 => ktr_room); (case k9 => exact BindsTo.of_eq rfl); (case c5 => decide); (case kB => exact locs rfl); (case c2 => exact rfl); (case c3 => exact rfl); (case c4 => exact rfl); k_whole; intro g' L' h' FG' F' N' B' X' T' D'; (try dsimp only); (try k_lift B'); (try k_fold))
  k_steps
  rename Fr h₀ _ _ _ => kF
  rename News h₀ _ _ _ => kN
  exact hret _ _ _ _ _ (by assumption) kF kN (by assumption)
theorem c_quotes2 {prog : Program} {w : World} {p : Program} {loose : List Str} {mean : ExcName → Option Value} {mg mb : Str → Option Value}
  (x : Str) (tx : Tok) (hx : x.length ≤ 100) (hq : AllQp x) (rest : List (Addr × Obj)) (c' : Addr) (oc : Obj) (hoc : LamAt "build_quoted_string" oc) (C0 : ∀ h₀ : Heap, (hd.heap_39 w.params).In h₀ → CodeHd h₀ 117 113) :
  CxT prog w p loose mean mg mb 6 [.str x tx] 261 fun h₀ L m news s Q E =>
   news = (113, tabObj #[rawInt 38, rawInt 31, .ref c']) :: (c', oc) :: rest ∧
   (∀ (h' : Heap) (tk' : Nat) (t1 : Tok), Fr h₀ L h' m → News h₀ L h' news → Q (.str (bqOut x) t1) { s with heap := h', toks := tk' }) := by
  rintro dp un gd cn cs a ccd cl A₀ h₀ L m news s Q E B F X N T hk hd hu ⟨rfl, hret⟩
  refine wpAny_call ?_
  k_dflt (refine' code_S0X ?k1 ?k2 ?k3 ?k4 ?k5 ?kA ?kF ?kK ?k6 ?k7 ?k8 ?k9 ?kB ?_ ?c2 ?c3 ?c4 ?c5; (case kA => exact rfl); (case kF => exact rfl); (case kK => assumption); (case k1 => k_asm); (case k2 => k_asm); (case k3 => k_asm); (case k4 => k_asm); (case k5 => k_asm); (case k6 => k_is); (case k7 => k_is); (case k8 => ktr_room); (case k9 => exact BindsTo.of_eq rfl); (case c5 => decide); (case kB => exact locs rfl); (case c2 => exact rfl); (case c3 => exact rfl); (case c4 => exact rfl); k_whole; intro g' L' h' FG' F' N' B' X' T' D'; (try dsimp only); (try k_lift B'); (try k_fold))
  k_steps
  rename Fr h₀ _ _ _ => kF
  rename News h₀ _ _ _ => kN
  exact hret _ _ _ kF kN
theorem c_quotesE {prog : Program} {w : World} {p : Program} {loose : List Str} {mean : ExcName → Option Value} {mg mb : Str → Option Value}
  (x : Str) (tx : Tok) (hx : x.length ≤ 100) (hq : ¬ AllQp x) :
  CxT prog w p loose mean mg mb 6 [.str x tx] 261 fun h₀ L m news s Q E =>
   (∀ (h' : Heap) (tk' : Nat), Fr h₀ L h' m → News h₀ L h' news → Q .none { s with heap := h', toks := tk' }) := by
  rintro dp un gd cn cs a ccd cl A₀ h₀ L m news s Q E B F X N T hk hd hu hret
  refine wpAny_call ?_
  k_dflt (refine' code_S0X ?k1 ?k2 ?k3 ?k4 ?k5 ?kA ?kF ?kK ?k6 ?k7 ?k8 ?k9 ?kB ?_ ?c2 ?c3 ?c4 ?c5; (case kA => exact rfl); (case kF => exact rfl); (case kK => assumption); (case k1 => k_asm); (case k2 => k_asm); (case k3 => k_asm); (case k4 => k_asm); (case k5 => k_asm); (case k6 => k_is); (case k7 => k_is); (case k8 => ktr_room); (case k9 => exact BindsTo.of_eq rfl); (case c5 => decide); (case kB => exact locs rfl); (case c2 => exact rfl); (case c3 => exact rfl); (case c4 => exact rfl); k_whole; intro g' L' h' FG' F' N' B' X' T' D'; (try dsimp only); (try k_lift B'); (try k_fold))
  k_steps
  refine Hold.mk (fun e9 g9 h9 tk9 F9 R9 U9 => ?_)
  k_dflt (refine' caught_SN0 (T' := "ValueError") R9 F9 ?K U9 ?XB ?TB ?D ?T0 ?ex PyProof.Rows.Boot.«ValueError» ?hn PySem.F.isExc_ValueError PySem.F.notTuple_ValueError ?hs ?_; (case K => assumption); (case XB => assumption); (case TB => assumption); (case D => assumption); (case T0 => exact KtsTurn.refl); (case ex => k_is); (case hn => decide); (case hs => kts_sub); k_whole)
  intro h' g' T'' F'' N'' B'' X'' P'' D''
  k_steps
  rename Fr h₀ _ _ _ => kF
  rename News h₀ _ _ _ => kN
  exact hret _ _ kF kN
end
end
local macro_rules | `(tactic| walk_at "call ref") => `(tactic| (k_here; (with_reducible show wpAny _ _ (call (Value.ref 261) [_]) _ _ _); k_dflt (refine' CxT.use (c_quotes1 _ _ ?x ?q _ ?ne ?c0) ?B ?F ?X ?N ?T ?hk ?hd ?hu ?_; (case x => first | assumption | omega); (case q => assumption); (case ne => assumption); (case c0 => assumption); (case B => k_asm); (case F => k_asm); (case X => k_asm); (case N => k_asm); (case T => k_asm); (case hk => first | exact rfl | assumption); (case hd => ktr_room); (case hu => ktr_units)); refine And.intro rfl (fun c9 oc9 h9 tk9 t9 L9 F9 N9 l9 => ?_); (try dsimp only)))
local macro_rules | `(tactic| walk_at "call ref") => `(tactic| (k_here; (with_reducible show wpAny _ _ (call (Value.ref 261) [_]) _ _ _); k_dflt (refine' CxT.use (c_quotes2 _ _ ?x ?q ?rs ?cc _ ?oc ?c0) ?B ?F ?X ?N ?T ?hk ?hd ?hu (And.intro rfl ?_); (case x => first | assumption | omega); (case q => assumption); (case oc => assumption); (case c0 => assumption); (case B => k_asm); (case F => k_asm); (case X => k_asm); (case N => k_asm); (case T => k_asm); (case hk => first | exact rfl | assumption); (case hd => ktr_room); (case hu => ktr_units)); refine (fun h9 tk9 t9 F9 N9 => ?_); (try dsimp only)))
local macro_rules | `(tactic| walk_at "call ref") => `(tactic| (k_here; (with_reducible show wpAny _ _ (call (Value.ref 261) [_]) _ _ _); k_dflt (refine' CxT.use (c_quotesE _ _ ?x ?q) ?B ?F ?X ?N ?T ?hk ?hd ?hu ?_; (case x => first | assumption | omega); (case q => assumption); (case B => k_asm); (case F => k_asm); (case X => k_asm); (case N => k_asm); (case T => k_asm); (case hk => first | exact rfl | assumption); (case hd => ktr_room); (case hu => ktr_units)); refine (fun h9 tk9 F9 N9 => ?_); (try dsimp only)))
local macro_rules | `(tactic| walk_at "no such step") => `(tactic| fail "none")
theorem fresh23 : True := by
  w_top off
  trivial
section
section
local macro_rules | `(tactic| walk_at "getAttr ref") => `(tactic| (k_here; k_dflt (refine' get_exc ?F ?X ?N ?he ?hd ?hc ?hn ?hdd ?hl ?hv ?hh ?ha ?hsub ?hga ?hgh ?_; (case F => k_asm); (case X => k_asm); (case N => k_asm); (case hl => assumption); (case hc => assumption); (case hn => assumption); (case hdd => assumption); (case he => k_mem); (case hd => k_mem); (case hv => exact rfl); (case hh => k_is); (case ha => k_is); (case hsub => k_is); (case hga => k_is); (case hgh => k_is); k_whole)))
local macro_rules | `(tactic| walk_at "call ref") => `(tactic| (k_here; (with_reducible show wpAny _ _ (call (Value.ref 101) [_, _, _]) _ _ _); k_dflt (refine' CxE.use (c_pqs1 ?pp _ _ _ _ _ _ _ ?e0 ?e ?g ?gn _ ?ne ?c0) ?B ?F ?X ?N ?T ?hk ?hd ?hu ?_; (case pp => assumption); (case e0 => first | assumption | exact (rfl : (0 : Int) = ((0 : Nat) : Int))); (case e => first | assumption | exact Nat.zero_le _ | omega); (case g => first | assumption | omega); (case gn => decide); (case ne => assumption); (case c0 => assumption); (case B => k_asm); (case F => k_asm); (case X => k_asm); (case N => k_asm); (case T => k_asm); (case hk => first | exact rfl | assumption); (case hd => ktr_room); (case hu => ktr_units)); refine And.intro rfl (And.intro (fun e9 T9 c9 oc9 h9 tk9 t9 t9' eq9 L9 F9 N9 lc9 l9 => ?_) (fun eq9 => Hold.out ?_)); (try dsimp only)))
local macro_rules | `(tactic| walk_at "call ref") => `(tactic| (k_here; (with_reducible show wpAny _ _ (call (Value.ref 101) [_, _, _]) _ _ _); k_dflt (refine' CxE.use (c_pqs2 ?pp _ _ _ _ _ _ _ ?e0 ?e ?g ?gn ?rs ?cc _ ?oc ?c0) ?B ?F ?X ?N ?T ?hk ?hd ?hu (And.intro rfl ?_); (case pp => assumption); (case e0 => first | assumption | exact (rfl : (0 : Int) = ((0 : Nat) : Int))); (case e => first | assumption | exact Nat.zero_le _ | omega); (case g => first | assumption | omega); (case gn => decide); (case oc => assumption); (case c0 => assumption); (case B => k_asm); (case F => k_asm); (case X => k_asm); (case N => k_asm); (case T => k_asm); (case hk => first | exact rfl | assumption); (case hd => ktr_room); (case hu => ktr_units)); refine (And.intro (fun e9 T9 h9 tk9 t9 t9' eq9 F9 N9 l9 => ?_) (fun eq9 => Hold.out ?_)); (try dsimp only)))
local macro_rules | `(tactic| walk_at "no such step") => `(tactic| fail "none")
local macro_rules | `(tactic| walk_at "no such step") => `(tactic| fail "none")
theorem c_unq1 {prog : Program} {w : World} {p : Program} {loose : List Str} {mean : ExcName → Option Value} {mg mb : Str → Option Value}
  (hpp : ProgOk prog) (x : Str) (tx : Tok) (k : Int) (i : Nat) (ti : Tok) (hki : k = i) (hi : i ≤ x.length) (hx : x.length ≤ 100) (e : Nat) (hq : qFind x.cps x.length i = some e)
  (rest : List (Addr × Obj)) (hne : ∀ p ∈ rest, p.1 ≠ 96) (C0 : ∀ h₀ : Heap, (hd.heap_39 w.params).In h₀ → CodeHd h₀ 100 96) :
  CxT prog w p loose mean mg mb 7 [.str x tx, .int k ti] 268 fun h₀ L m news s Q E =>
   news = (96, tabObj #[]) :: rest ∧
   (∀ (T c' : Addr) (oc : Obj) (h' : Heap) (tk' : Nat) (t1 t2 : Tok), LamAt "parse_quoted_string" oc → Fr h₀ L h' m → News h₀ L h' ((T, tupObj [.str (qsOut x i e) t1, .int (e : Nat) t2]) :: (c', oc) :: (96, tabObj #[rawInt 31, rawInt 28, .ref c']) :: rest) → AllLt c' ((96, tabObj #[]) :: rest) → AllLt T ((c', oc) :: (96, tabObj #[]) :: rest) → Q (.ref T) { s with heap := h', toks := tk' }) := by
  rintro dp un gd cn cs a ccd cl A₀ h₀ L m news s Q E B F X N T hk hd hu ⟨rfl, hret⟩
  refine wpAny_call ?_
  k_dflt (refine' code_S0X ?k1 ?k2 ?k3 ?k4 ?k5 ?kA ?kF ?kK ?k6 ?k7 ?k8 ?k9 ?kB ?_ ?c2 ?c3 ?c4 ?c5; (case kA => exact rfl); (case kF => exact rfl); (case kK => assumption); (case k1 => k_asm); (case k2 => k_asm); (case k3 => k_asm); (case k4 => k_asm); (case k5 => k_asm); (case k6 => k_is); (case k7 => k_is); (case k8 => ktr_room); (case k9 => exact BindsTo.of_eq rfl); (case c5 => decide); (case kB => exact locs rfl); (case c2 => exact rfl); (case c3 => exact rfl); (case c4 => exact rfl); k_whole; intro g' L' h' FG' F' N' B' X' T' D'; (try dsimp only); (try k_lift B'); (try k_fold))
  k_steps
  · rename Fr h₀ _ _ _ => kF
    rename News h₀ _ _ _ => kN
    rename (qFind _ _ _ = some _) => q1
    cases hq.symm.trans q1
    exact hret _ _ _ _ _ _ _ (by assumption) kF kN (by assumption) (by assumption)
  · rename (qFind _ _ _ = none) => q1
    cases hq.symm.trans q1
theorem c_unq2 {prog : Program} {w : World} {p : Program} {loose : List Str} {mean : ExcName → Option Value} {mg mb : Str → Option Value}
  (hpp : ProgOk prog) (x : Str) (tx : Tok) (k : Int) (i : Nat) (ti : Tok) (hki : k = i) (hi : i ≤ x.length) (hx : x.length ≤ 100)
  (rest : List (Addr × Obj)) (c' : Addr) (oc : Obj) (hoc : LamAt "parse_quoted_string" oc) (C0 : ∀ h₀ : Heap, (hd.heap_39 w.params).In h₀ → CodeHd h₀ 100 96) :
  CxT prog w p loose mean mg mb 7 [.str x tx, .int k ti] 268 fun h₀ L m news s Q E =>
   news = (96, tabObj #[rawInt 31, rawInt 28, .ref c']) :: (c', oc) :: rest ∧
   (∀ (e : Nat) (T : Addr) (h' : Heap) (tk' : Nat) (t1 t2 : Tok), qFind x.cps x.length i = some e → Fr h₀ L h' m → News h₀ L h' ((T, tupObj [.str (qsOut x i e) t1, .int (e : Nat) t2]) :: news) → AllLt T news → Q (.ref T) { s with heap := h', toks := tk' }) ∧
   (∀ (t : Tok) (h' : Heap) (tk' : Nat), qFind x.cps x.length i = none → Fr h₀ L h' m → News h₀ L h' news → Q (.int i t) { s with heap := h', toks := tk' }) := by
  rintro dp un gd cn cs a ccd cl A₀ h₀ L m news s Q E B F X N T hk hd hu ⟨rfl, hret, hexc⟩
  refine wpAny_call ?_
  k_dflt (refine' code_S0X ?k1 ?k2 ?k3 ?k4 ?k5 ?kA ?kF ?kK ?k6 ?k7 ?k8 ?k9 ?kB ?_ ?c2 ?c3 ?c4 ?c5; (case kA => exact rfl); (case kF => exact rfl); (case kK => assumption); (case k1 => k_asm); (case k2 => k_asm); (case k3 => k_asm); (case k4 => k_asm); (case k5 => k_asm); (case k6 => k_is); (case k7 => k_is); (case k8 => ktr_room); (case k9 => exact BindsTo.of_eq rfl); (case c5 => decide); (case kB => exact locs rfl); (case c2 => exact rfl); (case c3 => exact rfl); (case c4 => exact rfl); k_whole; intro g' L' h' FG' F' N' B' X' T' D'; (try dsimp only); (try k_lift B'); (try k_fold))
  k_steps
  · rename Fr h₀ _ _ _ => kF
    rename News h₀ _ _ _ => kN
    exact hret _ _ _ _ _ _ (by assumption) kF kN (by assumption)
  · refine Hold.mk (fun e9 g9 h9 tk9 F9 R9 => ?_)
    k_dflt (refine' caught_own R9 F9 ?K ?XB ?TB ?D ?ex ?q ?_; (case K => assumption); (case XB => assumption); (case TB => assumption); (case D => assumption); (case ex => k_is); (case q => kts_isx))
    intro h' g' tk d es nn t eo T'' F'' N'' c1 c2 c3 c4 B'' X'' P'' D''
    k_steps
    rename Fr h₀ _ _ _ => kF
    rename News h₀ _ _ _ => kN
    exact hexc _ _ _ (by assumption) kF (fun p hp => kN p (List.mem_cons_of_mem _ (List.mem_cons_of_mem _ hp)))
end
end
local macro_rules | `(tactic| walk_at "call ref") => `(tactic| (k_here; (with_reducible show wpAny _ _ (call (Value.ref 268) [_, _]) _ _ _); k_dflt (refine' CxT.use (c_unq1 ?pp _ _ _ _ _ ?e0 ?e ?g _ ?q _ ?ne ?c0) ?B ?F ?X ?N ?T ?hk ?hd ?hu ?_; (case pp => assumption); (case e0 => first | assumption | exact (rfl : (0 : Int) = ((0 : Nat) : Int)) | exact (rfl : (2 : Int) = ((2 : Nat) : Int))); (case q => assumption); (case e => first | assumption | exact Nat.zero_le _ | omega); (case g => first | assumption | omega); (case ne => assumption); (case c0 => assumption); (case B => k_asm); (case F => k_asm); (case X => k_asm); (case N => k_asm); (case T => k_asm); (case hk => first | exact rfl | assumption); (case hd => ktr_room); (case hu => ktr_units)); refine And.intro rfl (fun T9 c9 oc9 h9 tk9 t9 t9' L9 F9 N9 lc9 l9 => ?_); (try dsimp only)))
local macro_rules | `(tactic| walk_at "call ref") => `(tactic| (k_here; (with_reducible show wpAny _ _ (call (Value.ref 268) [_, _]) _ _ _); k_dflt (refine' CxT.use (c_unq2 ?pp _ _ _ _ _ ?e0 ?e ?g ?rs ?cc _ ?oc ?c0) ?B ?F ?X ?N ?T ?hk ?hd ?hu (And.intro rfl ?_); (case pp => assumption); (case e0 => first | assumption | exact (rfl : (0 : Int) = ((0 : Nat) : Int)) | exact (rfl : (2 : Int) = ((2 : Nat) : Int))); (case e => first | assumption | exact Nat.zero_le _ | omega); (case g => first | assumption | omega); (case oc => assumption); (case c0 => assumption); (case B => k_asm); (case F => k_asm); (case X => k_asm); (case N => k_asm); (case T => k_asm); (case hk => first | exact rfl | assumption); (case hd => ktr_room); (case hu => ktr_units)); refine (And.intro (fun e9 T9 h9 tk9 t9 t9' eq9 F9 N9 l9 => ?_) (fun t9 h9 tk9 eq9 F9 N9 => ?_)); (try dsimp only)))
local macro_rules | `(tactic| walk_at "no such step") => `(tactic| fail "none")
local macro_rules | `(tactic| walk_at "no such step") => `(tactic| fail "none")
local macro_rules | `(tactic| walk_at "no such step") => `(tactic| fail "none")
local macro_rules | `(tactic| walk_at "no such step") => `(tactic| fail "none")
theorem fresh24 : True := by
  w_top off
  trivial
section
section
variable {prog : Program} {w : World} {A : Around} {E : Value → Shared → Prop} {s : Shared} {h₀ : Heap} {L D : Addr} {m : Str → Option Value} {news : List (Addr × Obj)} {g : Obj → List (Addr × Obj)} {n : Nat} {its : Array Value}
theorem set_F {k : Int} {t : Tok} {v : Value} {Q : Unit → Shared → Prop} (F : Fr h₀ L s.heap m) (N : News h₀ L s.heap news) (U : UpdF D (listOf its n) news g) (h0 : 0 ≤ k) (hfit : k < 2 ^ 63) (hn : k < its.size)
    (h : ∀ h', Fr h₀ L h' m → News h₀ L h' (g (listOf (its.setIfInBounds k.toNat v) n)) → Q () { s with heap := h' }) : wpAny (model prog w) A (setItem (.ref D) (.int k t) v) Q E s := by
  obtain ⟨pre, post, rfl, hg, a, b⟩ := U.split
  have z := N (D, listOf its n) (List.mem_append.mpr (.inr (.head _)))
  refine ki_setAt z.1 h0 hfit hn (h _ (F.change (Heap.SameBut.update ..) z.2.1 z.2.2) ?_)
  rw [hg]
  exact ki_turn _ N a b rfl (by simp)
theorem sub_L {value slice : PySem.Expr} {k : Int} {u : Tok} {x : Value} {Q : Value → Shared → Prop} (N : News h₀ L s.heap news) (hm : (D, listOf its n) ∈ news) (h0 : 0 ≤ k) (hfit : k < 2 ^ 63) (hx : its[k.toNat]? = some x) (h : Q x s)
    (hs : subscripted slice false (.ref D) (.int k u) = operate [.ref D, .int k u] (getItem (.ref D) (.int k u)) := by with_unfolding_all rfl) :
    wpAny (model prog w) A (subscriptTail value slice (.ref D) (.int k u)) Q E s :=
  have hl := PySem.IsL.isList (n := n) (N _ hm).1
  tail_any hl.typeIs slot_list_getitem.lookup (wpAny_getItem_list hl h0 hfit hx h) hs
theorem sub_0 {value slice : PySem.Expr} {u : Tok} {x y z : Value} {Q : Value → Shared → Prop} (N : News h₀ L s.heap news) (hm : (D, listOf #[x, y, z] n) ∈ news) (h : Q x s)
    (hs : subscripted slice false (.ref D) (.int 0 u) = operate [.ref D, .int 0 u] (getItem (.ref D) (.int 0 u)) := by with_unfolding_all rfl) :
    wpAny (model prog w) A (subscriptTail value slice (.ref D) (.int 0 u)) Q E s := sub_L N hm (by decide) (by decide) rfl h hs
theorem sub_1 {value slice : PySem.Expr} {u : Tok} {x y z : Value} {Q : Value → Shared → Prop} (N : News h₀ L s.heap news) (hm : (D, listOf #[x, y, z] n) ∈ news) (h : Q y s)
    (hs : subscripted slice false (.ref D) (.int 1 u) = operate [.ref D, .int 1 u] (getItem (.ref D) (.int 1 u)) := by with_unfolding_all rfl) :
    wpAny (model prog w) A (subscriptTail value slice (.ref D) (.int 1 u)) Q E s := sub_L N hm (by decide) (by decide) rfl h hs
theorem sub_2 {value slice : PySem.Expr} {u : Tok} {x y z : Value} {Q : Value → Shared → Prop} (N : News h₀ L s.heap news) (hm : (D, listOf #[x, y, z] n) ∈ news) (h : Q z s)
    (hs : subscripted slice false (.ref D) (.int 2 u) = operate [.ref D, .int 2 u] (getItem (.ref D) (.int 2 u)) := by with_unfolding_all rfl) :
    wpAny (model prog w) A (subscriptTail value slice (.ref D) (.int 2 u)) Q E s := sub_L N hm (by decide) (by decide) rfl h hs
theorem set_1 {t : Tok} {v x y z : Value} {Q : Unit → Shared → Prop} (F : Fr h₀ L s.heap m) (N : News h₀ L s.heap news) (U : UpdF D (listOf #[x, y, z] n) news g)
    (h : ∀ h', Fr h₀ L h' m → News h₀ L h' (g (listOf #[x, v, z] n)) → Q () { s with heap := h' }) : wpAny (model prog w) A (setItem (.ref D) (.int 1 t) v) Q E s :=
  set_F F N U (by decide) (by decide) (by show (1 : Int) < ((3 : Nat) : Int); decide) h
theorem len_N {vs : List Value} {ns : List Int} {Q : Value → Shared → Prop} (N : News h₀ L s.heap news) (hm : (D, listOf vs.toArray n) ∈ news) (hi : IntsAre vs ns) (hl : ns.length ≤ 1000) (h : ∀ t tk, Q (.int (ns.length : Nat) t) { s with toks := tk }) :
    wpAny (model prog w) A (call (.builtin "len") [.ref D]) Q E s := by
  have e : vs.toArray.size = ns.length := by rw [List.size_toArray]; exact hi.length
  refine call_len_list (PySem.IsL.isList (n := n) (N _ hm).1) (by omega) ?_
  rw [e]
  exact h _ _
end
/-- the list that the law draws from -/
abbrev stO (A : Addr) (place : Int) (tp : Tok) (seed : Int) (ts : Tok) (n : Nat) : Obj := listOf #[.ref A, .int place tp, .int seed ts] n
section
local macro_rules | `(tactic| walk_at "subscriptTail") => `(tactic| (k_here; (with_reducible show wpAny _ _ (subscriptTail _ _ (Value.ref _) (Value.int 0 _)) _ _ _); k_dflt (refine' sub_0 ?N ?m ?_ ?hs; (case N => k_asm); (case m => first | assumption | solve_by_elim); (case hs => with_unfolding_all rfl); k_whole)))
local macro_rules | `(tactic| walk_at "subscriptTail") => `(tactic| (k_here; (with_reducible show wpAny _ _ (subscriptTail _ _ (Value.ref _) (Value.int 1 _)) _ _ _); k_dflt (refine' sub_1 ?N ?m ?_ ?hs; (case N => k_asm); (case m => first | assumption | solve_by_elim); (case hs => with_unfolding_all rfl); k_whole)))
local macro_rules | `(tactic| walk_at "subscriptTail") => `(tactic| (k_here; (with_reducible show wpAny _ _ (subscriptTail _ _ (Value.ref _) (Value.int 2 _)) _ _ _); k_dflt (refine' sub_2 ?N ?m ?_ ?hs; (case N => k_asm); (case m => first | assumption | solve_by_elim); (case hs => with_unfolding_all rfl); k_whole)))
local macro_rules | `(tactic| walk_at "subscriptTail") => `(tactic| (k_here; (with_reducible show wpAny _ _ (subscriptTail _ _ (Value.ref _) (Value.int _ _)) _ _ _); k_dflt (refine' ksa_sub ?N ?m ?hi ?h0 ?h1 ?hf ?_ ?hs; (case N => k_asm); (case hi => assumption); (case m => first | assumption | solve_by_elim); (case h0 => assumption); (case h1 => omega); (case hf => omega); (case hs => with_unfolding_all rfl); k_whole); intro t9))
local macro_rules | `(tactic| walk_at "call builtin:len") => `(tactic| (k_here; (with_reducible show wpAny _ _ (call (Value.builtin "len") [Value.ref _]) _ _ _); k_dflt (refine' len_N ?N ?m ?hi ?hl ?_; (case N => k_asm); (case hi => assumption); (case m => first | assumption | solve_by_elim); (case hl => assumption); k_whole); intro t9 tk9))
local macro_rules | `(tactic| walk_at "setItem ref") => `(tactic| (k_here; (with_reducible show wpAny _ _ (setItem (Value.ref _) (Value.int 1 _) _) _ _ _); k_dflt (refine' set_1 ?F ?N ?U ?_; (case F => k_asm); (case N => k_asm); (case U => assumption); k_whole); intro h9 F9 N9; (try dsimp only at N9); (try k_sweep)))
theorem c_next {prog : Program} {w : World} {p : Program} {loose : List Str} {mean : ExcName → Option Value} {mg mb : Str → Option Value}
  (S A : Addr) (place seed : Int) (tp ts tz : Tok) (n : Nat) (vs : List Value) (ns : List Int) (na : Nat) (size : Int) (hz : 0 < size) (hz2 : size ≤ 100) (hp : 0 ≤ place) (hp2 : place ≤ 100000) (hs : 0 ≤ seed) (hs2 : seed ≤ 1000) (hi : IntsAre vs ns) (hl : ns.length ≤ 1000)
  (nw : List (Addr × Obj)) (g : Obj → List (Addr × Obj)) (U : UpdF S (stO A place tp seed ts n) nw g) (hS : (S, stO A place tp seed ts n) ∈ nw) (hA : (A, listOf vs.toArray na) ∈ nw) (hA2 : ∀ o, (A, listOf vs.toArray na) ∈ g o) (hS2 : ∀ o, (S, o) ∈ g o) :
  Cx prog w p loose mean mg mb 3 [.ref S, .int size tz] 186 fun h₀ L m news s Q E =>
   news = nw ∧
   (∀ (r : Int) (t tp' : Tok) (h' : Heap) (tk' : Nat), 0 ≤ r → r < size → Fr h₀ L h' m → News h₀ L h' (g (stO A (place + 1) tp' seed ts n)) → Q (.int r t) { s with heap := h', toks := tk' }) := by
  rintro dp un gd cn cs a ccd cl outer A₀ base h₀ L m news s Q E B F X N T hk hd hu ⟨rfl, hret⟩
  refine wpAny_call ?_
  (k_dflt cell_enter)
  have hfm : 0 ≤ place.fmod 3 := Int.fmod_nonneg_of_pos _ (by decide)
  have hfm3 : place.fmod 3 < 3 := Int.fmod_lt_of_pos _ (by decide)
  have hfn : ¬ (1 + place.fmod 3 = 0) := by omega
  have hnp : (1 + place.fmod 3).natAbs < 1073741824 := by omega
  k_steps
  all_goals
    rename Fr h₀ _ _ _ => kF
    rename News h₀ _ _ _ => kN
    exact hret _ _ _ _ _ (Int.fmod_nonneg_of_pos _ hz) (Int.fmod_lt_of_pos _ hz) kF kN
end
theorem updF_mem {d : Addr} {o : Obj} {l : List (Addr × Obj)} {g : Obj → List (Addr × Obj)} (U : UpdF d o l g) : (d, o) ∈ l ∧ ∀ o', (d, o') ∈ g o' := by
  obtain ⟨pre, post, rfl, hg, _, _⟩ := U.split
  exact ⟨List.mem_append_right _ (List.mem_cons_self ..), fun o' => by rw [hg]; exact List.mem_append_right _ (List.mem_cons_self ..)⟩
theorem updF_other {d : Addr} {o : Obj} {l : List (Addr × Obj)} {g : Obj → List (Addr × Obj)} (U : UpdF d o l g) {p : Addr × Obj} (hp : p ∈ l) (hne : p.1 ≠ d) (o' : Obj) : p ∈ g o' := by
  obtain ⟨pre, post, rfl, hg, _, _⟩ := U.split
  rw [hg]
  rcases List.mem_append.mp hp with h | h
  · exact List.mem_append_left _ h
  · rcases List.mem_cons.mp h with rfl | h
    · exact absurd rfl hne
    · exact List.mem_append_right _ (List.mem_cons_of_mem _ h)
theorem c_next2 {prog : Program} {w : World} {p : Program} {loose : List Str} {mean : ExcName → Option Value} {mg mb : Str → Option Value}
  {S A : Addr} {place seed : Int} {tp ts tz : Tok} {n : Nat} {vs : List Value} {ns : List Int} {na : Nat} {size : Int} {nw : List (Addr × Obj)} {g : Obj → List (Addr × Obj)}
  (hz : 0 < size) (hz2 : size ≤ 100) (hp : 0 ≤ place) (hp2 : place ≤ 100000) (hs : 0 ≤ seed) (hs2 : seed ≤ 1000) (U : UpdF S (stO A place tp seed ts n) nw g) (hA : (A, listOf vs.toArray na) ∈ nw) (hne : A ≠ S) (hi : IntsAre vs ns) (hl : ns.length ≤ 1000) :
  Cx prog w p loose mean mg mb 3 [.ref S, .int size tz] 186 fun h₀ L m news s Q E =>
   news = nw ∧
   (∀ (r : Int) (t tp' : Tok) (h' : Heap) (tk' : Nat), 0 ≤ r → r < size → Fr h₀ L h' m → News h₀ L h' (g (stO A (place + 1) tp' seed ts n)) → Q (.int r t) { s with heap := h', toks := tk' }) :=
  c_next S A place seed tp ts tz n vs ns na size hz hz2 hp hp2 hs hs2 hi hl nw g U (updF_mem U).1 hA (fun o => updF_other U hA hne o) (updF_mem U).2
end
local macro_rules | `(tactic| walk_at "call ref") => `(tactic| (k_here; (with_reducible show wpAny _ _ (call (Value.ref 186) [Value.ref _, Value.int _ _]) _ _ _); k_dflt (refine' Cx.use (c_next2 ?y1 ?y2 ?y3 ?y4 ?y5 ?y6 ?yU ?yA ?yn ?yi ?yl) ?B ?F ?X ?N ?T ?hk ?hd ?hu (And.intro rfl ?_); (case N => k_asm); (case y1 => decide); (case y2 => decide); (case yU => first | assumption | k_updF); (case yA => first | assumption | kcf_m); (case yn => first | assumption | k_ne); (case yi => assumption); (case yl => assumption); (case y3 => first | assumption | omega); (case y4 => first | assumption | omega); (case y5 => assumption); (case y6 => assumption); (case B => k_asm); (case F => k_asm); (case X => k_asm); (case T => k_asm); (case hk => first | exact rfl | assumption); (case hd => ktr_room); (case hu => ktr_units)); refine (fun r9 t9 tp9 h9 tk9 r0 r1 F9 N9 => ?_); (try dsimp only at N9); (try k_sweep); (try dsimp only)))
theorem fresh25 : True := by
  w_top off
  trivial
section
section
local macro_rules | `(tactic| walk_at "eval ListComp") => `(tactic| (k_here; k_dflt (refine LCg.ListComp_U (F₀ := by k_asm) (by with_unfolding_all rfl) (by decide) (by rfl) (by decide) (by rfl) ?_)))
local macro_rules | `(tactic| walk_at "CompSrc") => `(tactic| refine Hold.out ?_)
theorem c_state {prog : Program} {w : World} {p : Program} {loose : List Str} {mean : ExcName → Option Value} {mg mb : Str → Option Value}
  (l : Addr) (vs : List Value) (ns : List Int) (hi : IntsAre vs ns) (hl : ns.length ≤ 1000) :
  Cx prog w p loose mean mg mb 3 [.ref l] 191 fun h₀ L m news s Q E =>
   h₀.IsList l vs.toArray ∧
   (∀ (S A : Addr) (seed : Int) (tp ts : Tok) (vs' : List Value) (ns' : List Int) (n na : Nat) (h' : Heap) (tk' : Nat), 0 ≤ seed → seed ≤ 1000 → IntsAre vs' ns' → ns'.length ≤ 1000 → Fr h₀ L h' m → News h₀ L h' ((S, stO A 0 tp seed ts n) :: (A, listOf vs'.toArray na) :: news) → AllLt A news → AllLt S ((A, listOf vs'.toArray na) :: news) → Q (.ref S) { s with heap := h', toks := tk' }) := by
  rintro dp un gd cn cs a ccd cl outer A₀ base h₀ L m news s Q E B F X N T hk hd hu ⟨hL, hret⟩
  refine wpAny_call ?_
  (k_dflt cell_enter)
  rename Fr h₀ L _ _ => FG
  have hL2 := hL.imp (fun o e => And.imp_left (FG.keep _ _) e)
  k_steps
  rename Fr _ _ _ (fun y => _) => kF
  rename News _ _ _ (_ :: _) => kN
  refine Hold.mk (LCg.CompSrc.base (by rfl) kF kN hL2 (by size_fits) ?_)
  intro g9
  refine kcf_list (fun k => (if k < 0 then -k else k).fmod 991) hi (fun k' t' I' oI' C' oC' D' m' ys' h' tk' E' hk' hC' hx' F' N' off' ne' hM' => ?_) ?_
  · k_steps
  · unfold KPfDone
    intro ys hy
    k_steps
    rename Fr h₀ _ _ _ => kF2
    rename News h₀ _ _ _ => kN2
    rename IntsAre _ (List.take 60 ns) => hT
    rename ∀ p ∈ news, _ => hA
    rename _ ∧ _ ∧ AllLt _ _ => hS
    have lA : AllLt _ news := allLt_of hA
    refine hret _ _ _ _ _ _ _ _ _ _ _ ?_ ?_ hT ?_ kF2 (news_skip1 kN2) lA ⟨hS.2.1, hS.2.2⟩
    · exact Int.fmod_nonneg_of_pos _ (by decide)
    · exact Int.le_of_lt (Int.lt_of_lt_of_le (Int.fmod_lt_of_pos _ (by decide)) (by decide))
    · rw [List.length_take]; omega
end
end
theorem fresh26 : True := by
  w_top off
  trivial
section
/-- a list of strs, as the kit's lists of values have it -/
abbrev SA : List Value → List Str → Prop := PyProof.Rows.StrsAre
section
variable {prog : Program} {w : World} {A : Around} {h₀ : Heap} {L : Addr} {m : Str → Option Value} {env : Env} {elt : Expr} {x : Str} {scope : Scope} {cl : List (Str × Addr)} {s : Shared} {S : List (Addr × Obj) → Prop} {P : Nat → Value → Prop} {Fin : List Value → List (Addr × Obj) → Prop} {news : List (Addr × Obj)}
/-- the turns of a comprehension by what holds between them -/
theorem comp_inv {n : Nat} (J : Nat → List Value → List (Addr × Obj) → Prop) (h0 : J 0 [] news)
    (turn : ∀ i v I oI C oC D m₂ ys nw h tk (E' : Value → Shared → Prop), i < n → J i ys nw → P i v → LCg.NsObj oC m₂ → m₂ x = some v → Fr h₀ L h m → News h₀ L h ((I, oI) :: (C, oC) :: (D, LCg.lst ys) :: nw) → LCg.Off3 I C D nw → ((@Ne Nat I C) ∧ (@Ne Nat I D) ∧ (@Ne Nat C D)) →
      wpAny (model prog w) A (eval elt (compEnvC scope cl C env)) (LCg.CompEnd h₀ L m { s with heap := h, toks := tk } I oI C oC D (LCg.lst ys) S (fun y nw' => J (i + 1) (ys ++ [y]) nw')) E' { s with heap := h, toks := tk })
    (fin : ∀ ys nw, J n ys nw → Fin ys nw) : LCg.CompRest prog w A h₀ L m env elt x scope cl s S P Fin n 0 [] news := by
  have key : ∀ (j i : Nat) (ys : List Value) (nw : List (Addr × Obj)), i + j = n → J i ys nw → LCg.CompRest prog w A h₀ L m env elt x scope cl s S P Fin j i ys nw := by
    intro j
    induction j with
    | zero =>
      intro i ys nw hi hj
      have e : i = n := by omega
      subst e
      exact LCg.CompRest.zero (fin ys nw hj)
    | succ j ih =>
      intro i ys nw hi hj
      refine LCg.CompRest.succ ?_
      intro v I oI C oC D m₂ h tk E' hv hC hx F N off ne
      refine wpAny_mono (turn i v I oI C oC D m₂ ys nw h tk E' (by omega) hj hv hC hx F N off ne) (fun y s₂ hq => ?_) fun _ _ e => e
      obtain ⟨h', tk', nw', e, F', N', off', hS, hn⟩ := hq
      exact ⟨h', tk', nw', e, F', N', off', hS, ih (i + 1) _ nw' (by omega) hn⟩
  exact key n 0 [] news (by omega) h0
end
theorem sa_snoc {y : Str} {t : Tok} {vs : List Value} {ys : List Str} (h : SA vs ys) : SA (vs ++ [.str y t]) (ys ++ [y]) := kct_snoc h
section
variable {prog : Program} {w : World} {A : Around} {E : Value → Shared → Prop} {s : Shared} {h₀ : Heap} {L D : Addr} {news : List (Addr × Obj)}
theorem join_N {B : Nat} {sep : Str} {vs : List Value} {ws : List Str} {t : Tok} {Q : Value → Shared → Prop} (N : News h₀ L s.heap news) (hm : (D, LCg.lst vs) ∈ news) (hs : SA vs ws) (hB : ∀ y ∈ ws, y.length ≤ B) (hn : ws.length ≤ 1000) (hsep : B + sep.length ≤ 16)
    (h : ∀ t' tk, Q (.str (Txt.join sep ws) t') { s with toks := tk }) : wpAny (model prog w) A (call (.builtin "str.join") [.str sep t, .ref D]) Q E s := by
  have e : ws.map (id : Str → Str) = ws := List.map_id _
  refine join_madeW (g := (id : Str → Str)) (l := ws) (items := vs.toArray) B (PySem.IsL.isList (n := vs.length) (N _ hm).1) ?_ hB (by omega) hsep (fun t' tk => ?_)
  · rw [e]; exact hs.carried
  · rw [e]; exact h t' tk
end
theorem join_flat (ws : List Str) : (Txt.join ⟨#[]⟩ ws).cps.toList = ws.flatMap (·.cps.toList) := by
  show (Builtin.Str.glued ⟨#[]⟩ ws).cps.toList = _
  rw [StrLaws.glued_eq_join]
  induction ws with
  | nil => rfl
  | cons a r ih =>
    cases r with
    | nil => simp [Str.join]
    | cons b r =>
      show ((a ++ ⟨#[]⟩ ++ Str.join ⟨#[]⟩ (b :: r) : Str)).cps.toList = _
      rw [List.flatMap_cons, ← ih]
      show (a.cps ++ #[] ++ (Str.join ⟨#[]⟩ (b :: r)).cps).toList = _
      simp
/-- a word of the law's -/
def WordOk (x : Str) : Prop := 0 < x.length ∧ x.length ≤ 3 ∧ ∀ c ∈ x.cps.toList, isMark c = true
theorem join_word {ws : List Str} (h0 : 0 < ws.length) (h3 : ws.length ≤ 3) (h : ∀ y ∈ ws, y.length = 1 ∧ ∀ c ∈ y.cps.toList, isMark c = true) : WordOk (Txt.join (Str.ofString "") ws) := by
  have e : (Txt.join (Str.ofString "") ws).cps.toList = ws.flatMap (·.cps.toList) := join_flat ws
  have el : ((ws.flatMap (·.cps.toList))).length = ws.length := by
    clear h0 h3 e
    induction ws with
    | nil => rfl
    | cons y r ih =>
      rw [List.flatMap_cons, List.length_append, ih fun z hz => h z (List.mem_cons_of_mem _ hz), List.length_cons]
      have : y.cps.toList.length = 1 := by rw [Array.length_toList]; exact (h y (List.mem_cons_self ..)).1
      omega
  have eL : (Txt.join (Str.ofString "") ws).length = ws.length := by
    rw [← el, ← e, Array.length_toList]; rfl
  refine ⟨by omega, by omega, fun c hc => ?_⟩
  rw [e] at hc
  obtain ⟨y, hy, hc⟩ := List.mem_flatMap.mp hc
  exact (h y hy).2 c hc
theorem word_sign {r : Int} (h0 : 0 ≤ r) (h1 : r < 6) : (Txt.item (Str.ofString "ab-1.X") r).length = 1 ∧ ∀ c ∈ (Txt.item (Str.ofString "ab-1.X") r).cps.toList, isMark c = true := by
  obtain ⟨j, rfl⟩ := Int.eq_ofNat_of_zero_le h0
  have hl : (Str.ofString "ab-1.X").length = 6 := by decide +kernel
  rw [item_nat (by rw [hl]; omega)]
  refine ⟨rfl, fun c hc => ?_⟩
  have key : ∀ j, j < 6 → isMark ((Str.ofString "ab-1.X").cps.getD j 0) = true := by decide +kernel
  have hc' : c = (Str.ofString "ab-1.X").cps.getD j 0 := by simpa using hc
  rw [hc']
  exact key j (by omega)
section
local macro_rules | `(tactic| walk_at "eval ListComp") => `(tactic| (k_here; k_dflt (refine LCg.ListComp_U (F₀ := by k_asm) (by with_unfolding_all rfl) (by decide) (by rfl) (by decide) (by rfl) ?_)))
local macro_rules | `(tactic| walk_at "CompSrc") => `(tactic| refine Hold.out ?_)
local macro_rules | `(tactic| k_updF) => `(tactic| (refine' UpdF.head ?a; (case a => assumption)))
theorem c_word0 {prog : Program} {w : World} {p : Program} {loose : List Str} {mean : ExcName → Option Value} {mg mb : Str → Option Value}
  {S A : Addr} {place seed : Int} {tp ts : Tok} {n : Nat} {vs : List Value} {ns : List Int} {na : Nat} {rest : List (Addr × Obj)}
  (hp : 0 ≤ place) (hp2 : place ≤ 90000) (hs : 0 ≤ seed) (hs2 : seed ≤ 1000) (hA : (A, listOf vs.toArray na) ∈ rest) (hne : ∀ p ∈ rest, p.1 ≠ S) (hi : IntsAre vs ns) (hl : ns.length ≤ 1000) :
  Cx prog w p loose mean mg mb 4 [.ref S] 273 fun h₀ L m news s Q E =>
   news = (S, stO A place tp seed ts n) :: rest ∧
   (∀ (x : Str) (t tp' : Tok) (place' : Int) (h' : Heap) (tk' : Nat), WordOk x → place ≤ place' → place' ≤ place + 4 → Fr h₀ L h' m → News h₀ L h' ((S, stO A place' tp' seed ts n) :: rest) → Q (.str x t) { s with heap := h', toks := tk' }) := by
  rintro dp un gd cn cs a ccd cl outer A₀ base h₀ L m news s Q E B F X N T hk hd hu ⟨rfl, hret⟩
  have hAS : A ≠ S := hne _ hA
  refine wpAny_call ?_
  k_dflt (refine' code_defC ?k1 ?k2 ?k3 ?k4 ?k5 ?kA ?kF ?kK ?k6 ?k7 ?k8 ?k9 ?kB ?kD ?_ ?c2 ?c3 ?c4; (case kA => exact rfl); (case kF => exact rfl); (case kK => assumption); (case k1 => k_asm); (case k2 => k_asm); (case k3 => k_asm); (case k4 => k_asm); (case k5 => k_asm); (case k6 => k_is); (case k7 => k_is); (case k8 => ktr_room); (case k9 => exact BindsTo.of_eq rfl); (case kB => exact rfl); (case kD => decide +kernel); (case c2 => exact rfl); (case c3 => exact rfl); (case c4 => exact rfl); k_whole; intro g' L' h' tk' cells' FG' F' N' Y' B' X' T' l1; (try k_lt l1); obtain ⟨o1, hE1, d1⟩ := CellsAre.one Y'; subst hE1; clear Y'; (try simp only [List.cons_append, List.nil_append] at N'); (try dsimp only); (try k_lift B'); (try k_fold))
  k_steps
  rename Fr _ _ _ _ => kF
  rename News _ _ _ _ => kN
  rename IsRange _ _ _ _ _ _ _ _ => kR
  rename (0 : Int) ≤ _ => r0
  rename (_ : Int) < 3 => r1
  refine Hold.mk (LCg.CompSrc.range (by rfl) kF kN kR (small_one (by omega) (by omega) (by omega) (by omega)) (rangeSize_nat _ _) (by rw [PySem.sizeLine_eq]; omega) ?_)
  intro g9
  refine comp_inv (fun i ys nw => ∃ (pl : Int) (tq : Tok) (ws : List Str), nw = (L' + 1, o1) :: (S, stO A pl tq seed ts n) :: rest ∧ place ≤ pl ∧ pl ≤ place + 1 + i ∧ SA ys ws ∧ ws.length = i ∧ ∀ y ∈ ws, y.length = 1 ∧ ∀ c ∈ y.cps.toList, isMark c = true)
    ⟨place + 1, _, [], rfl, by omega, by omega, .nil, rfl, fun _ h => nomatch h⟩ ?_ ?_
  · rintro i v I oI C oC D m₂ ys nw h tk E' hlt ⟨pl, tq, ws, rfl, h1, h2, hS, hw, hG⟩ hv hC hx F N off ne
    simp only [LCg.Off3] at off
    have ht : (i : Int) < 3 := by omega
    k_steps
    rename Fr _ _ _ _ => kF
    rename News _ _ _ _ => kN
    rename (0 : Int) ≤ _ => q0
    rename (_ : Int) < 6 => q1
    refine LCg.CompEnd.intro kF kN ((L' + 1, o1) :: (S, stO A (pl + 1) _ seed ts n) :: rest) (fun _ h => h) off True.intro ⟨pl + 1, _, ws ++ [_], rfl, by omega, by omega, sa_snoc hS, by rw [List.length_append, List.length_singleton, hw], fun y hy => ?_⟩
    rcases List.mem_append.mp hy with hy | hy
    · exact hG y hy
    · rw [List.mem_singleton.mp hy]; exact word_sign q0 q1
  · rintro ys nw ⟨pl, tq, ws, rfl, h1, h2, hS, hw, hG⟩
    k_steps
    rename News _ _ _ _ => kN
    refine join_N (B := 1) kN (List.mem_cons_self ..) hS (fun y hy => Nat.le_of_eq (hG y hy).1) (by omega) (by decide) (fun t' tk => ?_)
    have hW := join_word (ws := ws) (by omega) (by omega) hG
    have hWl := hW.2.1
    k_steps
    rename Fr h₀ _ _ _ => kF2
    rename News h₀ _ _ _ => kN2
    exact hret _ _ _ _ _ _ hW h1 (by omega) kF2 (fun p hp => kN2 p (List.mem_cons_of_mem _ (List.mem_cons_of_mem _ hp)))
end
theorem upd_front {d : Addr} {o : Obj} {l : List (Addr × Obj)} {g : Obj → List (Addr × Obj)} (U : UpdF d o l g) :
    ∃ rest, (∀ p ∈ (d, o) :: rest, p ∈ l) ∧ (∀ o', ∀ p ∈ g o', p ∈ (d, o') :: rest) ∧ (∀ p ∈ rest, p.1 ≠ d) ∧ (∀ q ∈ l, q.1 ≠ d → q ∈ rest) := by
  obtain ⟨pre, post, rfl, hg, a, b⟩ := U.split
  refine ⟨pre ++ post, fun p hp => ?_, fun o' p hp => ?_, fun p hp => ?_, fun q hq hn => ?_⟩
  · rcases List.mem_cons.mp hp with rfl | hp
    · exact List.mem_append_right _ (List.mem_cons_self ..)
    · rcases List.mem_append.mp hp with h | h
      · exact List.mem_append_left _ h
      · exact List.mem_append_right _ (List.mem_cons_of_mem _ h)
  · rw [hg] at hp
    rcases List.mem_append.mp hp with h | h
    · exact List.mem_cons_of_mem _ (List.mem_append_left _ h)
    · rcases List.mem_cons.mp h with rfl | h
      · exact List.mem_cons_self ..
      · exact List.mem_cons_of_mem _ (List.mem_append_right _ h)
  · rcases List.mem_append.mp hp with h | h
    · exact a p h
    · exact b p h
  · rcases List.mem_append.mp hq with h | h
    · exact List.mem_append_left _ h
    · rcases List.mem_cons.mp h with rfl | h
      · exact absurd rfl hn
      · exact List.mem_append_right _ h
theorem c_word {prog : Program} {w : World} {p : Program} {loose : List Str} {mean : ExcName → Option Value} {mg mb : Str → Option Value}
  {S A : Addr} {place seed : Int} {tp ts : Tok} {n : Nat} {vs : List Value} {ns : List Int} {na : Nat} {nw : List (Addr × Obj)} {g : Obj → List (Addr × Obj)}
  (hp : 0 ≤ place) (hp2 : place ≤ 90000) (hs : 0 ≤ seed) (hs2 : seed ≤ 1000) (U : UpdF S (stO A place tp seed ts n) nw g) (hA : (A, listOf vs.toArray na) ∈ nw) (hne : A ≠ S) (hi : IntsAre vs ns) (hl : ns.length ≤ 1000) :
  Cx prog w p loose mean mg mb 4 [.ref S] 273 fun h₀ L m news s Q E =>
   news = nw ∧
   (∀ (x : Str) (t tp' : Tok) (place' : Int) (h' : Heap) (tk' : Nat), WordOk x → place ≤ place' → place' ≤ place + 4 → Fr h₀ L h' m → News h₀ L h' (g (stO A place' tp' seed ts n)) → Q (.str x t) { s with heap := h', toks := tk' }) := by
  rintro dp un gd cn cs a ccd cl outer A₀ base h₀ L m news s Q E B F X N T hk hd hu ⟨rfl, hret⟩
  obtain ⟨rest, r1, r2, r3, r4⟩ := upd_front U
  exact Cx.use (c_word0 hp hp2 hs hs2 (r4 _ hA hne) r3 hi hl) B F X (fun p hp => N p (r1 p hp)) T hk hd hu ⟨rfl, fun x t tp' place' h' tk' hw h1 h2 F' N' => hret x t tp' place' h' tk' hw h1 h2 F' (fun p hp => N' p (r2 _ p hp))⟩
end
local macro_rules | `(tactic| walk_at "call ref") => `(tactic| (k_here; (with_reducible show wpAny _ _ (call (Value.ref 273) [Value.ref _]) _ _ _); k_dflt (refine' Cx.use (c_word ?y3 ?y4 ?y5 ?y6 ?yU ?yA ?yn ?yi ?yl) ?B ?F ?X ?N ?T ?hk ?hd ?hu (And.intro rfl ?_); (case N => k_asm); (case yU => first | assumption | k_updF); (case yA => first | assumption | kcf_m); (case yn => first | assumption | k_ne); (case yi => assumption); (case yl => assumption); (case y3 => first | assumption | omega); (case y4 => first | assumption | omega); (case y5 => assumption); (case y6 => assumption); (case B => k_asm); (case F => k_asm); (case X => k_asm); (case T => k_asm); (case hk => first | exact rfl | assumption); (case hd => ktr_room); (case hu => ktr_units)); refine (fun x9 t9 tp9 pl9 h9 tk9 w9 p1 p2 F9 N9 => ?_); (try dsimp only at N9); (have wl9 := w9.2.1); (try k_sweep); (try dsimp only)))
theorem fresh27 : True := by
  w_top off
  trivial
section
/-- what of the text stands from i on -/
def At (x : Str) (i : Nat) (l : List Nat) : Prop := i ≤ x.length ∧ x.cps.toList.drop i = l
section
variable {x : Str} {i : Nat} {l a : List Nat} {c : Nat} {q : Nat → Bool}
theorem len_list (x : Str) : x.length = x.cps.toList.length := by rw [Array.length_toList]; rfl
theorem At.len (h : At x i l) : x.length = i + l.length := by
  obtain ⟨h1, h2⟩ := h
  have := len_list x
  rw [← h2, List.length_drop]; omega
theorem At.get (h : At x i (c :: l)) : x.cps.getD i 0 = c := by
  have h2 := h.2
  have : x.cps.toList[i]? = some c := by
    have e : (x.cps.toList.drop i)[0]? = some c := by rw [h2]; rfl
    simpa using e
  rw [Array.getD_eq_getD_getElem?, ← Array.getElem?_toList, this]; rfl
theorem At.app (h : At x i (a ++ l)) : At x (i + a.length) l := by
  have := h.len
  rw [List.length_append] at this
  refine ⟨by omega, ?_⟩
  rw [← List.drop_drop, h.2, List.drop_left]
theorem At.step (h : At x i (c :: l)) : At x (i + 1) l := At.app (a := [c]) h
theorem At.sub (h : At x i (a ++ l)) : x.cps.extract i (i + a.length) = a.toArray := by
  apply Array.ext'
  rw [Array.toList_extract, List.extract_eq_take_drop, h.2, show i + a.length - i = a.length by omega, List.take_left]
theorem At.all (x : Str) : At x 0 x.cps.toList := ⟨Nat.zero_le _, rfl⟩
theorem run_at : ∀ {a : List Nat} {i : Nat}, At x i (a ++ l) → (∀ c ∈ a, q c = true) → (∀ c, l.head? = some c → q c = false) → runLen x.cps q (x.length - i) i = a.length := by
  intro a
  induction a with
  | nil =>
    intro i h _ hl
    cases l with
    | nil => have := h.len; simp at this; rw [this, Nat.sub_self]; rfl
    | cons c l => exact runLen_false (by rw [h.get]; exact hl c rfl)
  | cons c a ih =>
    intro i h ha hl
    have := h.len
    simp at this
    rw [runLen_true (by rw [h.get (l := a ++ l)]; exact ha c (List.mem_cons_self ..)) (by omega), ih h.step (fun d hd => ha d (List.mem_cons_of_mem _ hd)) hl, List.length_cons]
    omega
theorem wEnd_at (h : At x i (a ++ l)) (ha : ∀ c ∈ a, isMark c = true) (hl : ∀ c, l.head? = some c → isMark c = false) : wEnd x i = i + a.length := by
  unfold wEnd; rw [run_at h ha hl]
theorem bEnd_at (h : At x i (a ++ l)) (ha : ∀ c ∈ a, isBlank c = true) (hl : ∀ c, l.head? = some c → isBlank c = false) : bEnd x i = i + a.length := by
  unfold bEnd; rw [run_at h ha hl]
end
/-- commas, each with blanks behind it -/
inductive Commas : List Nat → Prop
  | nil : Commas []
  | cons {b r : List Nat} (hb : ∀ c ∈ b, isBlank c = true) (hr : Commas r) : Commas (44 :: (b ++ r))
theorem Commas.head {a : List Nat} (h : Commas a) : ∀ c, a.head? = some c → c = 44 := by
  intro c hc
  cases h with
  | nil => cases hc
  | cons => simpa using hc.symm
theorem cEnd_at {x : Str} {a : List Nat} (h : Commas a) : ∀ {i : Nat} {l : List Nat}, At x i (a ++ l) → (∀ c, l.head? = some c → c ≠ 44 ∧ isBlank c = false) → cEnd x i = i + a.length := by
  induction h with
  | nil =>
    intro i l h hl
    refine cEnd_stop ?_
    rintro ⟨h1, h2⟩
    cases l with
    | nil => have := h.len; simp at this; omega
    | cons c l => rw [At.get (l := l) h] at h2; exact (hl c rfl).1 h2
  | @cons b r hb hr ih =>
    intro i l h hl
    have hlen := h.len
    simp at hlen
    have h1 : At x (i + 1) (b ++ (r ++ l)) := by simpa using At.step (l := b ++ r ++ l) h
    have h2 : ∀ c, (r ++ l).head? = some c → isBlank c = false := by
      intro c hc
      cases r with
      | nil => exact (hl c hc).2
      | cons d r => have := hr.head d rfl; subst this; have : (44 : Nat) = c := by simpa using hc
                    subst this; rfl
    rw [cEnd_comma (by omega) (At.get (l := b ++ r ++ l) h), bEnd_at h1 hb h2, ih h1.app hl]
    simp
    omega
/-- an item: what the item's end finds where it stands -/
def IsItem (wend : Nat → Nat) (x : Str) (w : List Nat) : Prop :=
  0 < w.length ∧ (∀ c, w.head? = some c → c ≠ 44 ∧ isBlank c = false) ∧ ∀ i l, At x i (w ++ l) → (∀ c, l.head? = some c → c = 44 ∨ isBlank c = true) → wend i = i + w.length
/-- a comma, blanks, the item, blanks -/
abbrev lay (p : List Nat × List Nat × List Nat) : List Nat := 44 :: (p.1 ++ (p.2.1 ++ p.2.2))
theorem rd_at {wend : Nat → Nat} {x : Str} {trail : List Nat} (hT : Commas trail) : ∀ (rest : List (List Nat × List Nat × List Nat)) (w t : List Nat) (n i : Nat) (acc : List Str),
    At x i (w ++ (t ++ (rest.flatMap lay ++ trail))) → IsItem wend x w → (∀ c ∈ t, isBlank c = true) →
    (∀ p ∈ rest, IsItem wend x p.2.1 ∧ (∀ c ∈ p.1, isBlank c = true) ∧ (∀ c ∈ p.2.2, isBlank c = true)) → rest.length < n →
    rdF wend x n i acc = .ok (acc ++ ⟨w.toArray⟩ :: rest.map fun p => ⟨p.2.1.toArray⟩) := by
  intro rest
  induction rest with
  | nil =>
    intro w t n i acc h hw ht _ hn
    obtain ⟨n, rfl⟩ : ∃ k, n = k + 1 := ⟨n - 1, by simp at hn; omega⟩
    have h0 : At x i (w ++ (t ++ trail)) := by simpa using h
    have e1 : wend i = i + w.length := hw.2.2 i _ h0 (fun c hc => by
      cases t with
      | nil => exact .inl (hT.head c hc)
      | cons d t => have : d = c := by simpa using hc
                    subst this; exact .inr (ht d (List.mem_cons_self ..)))
    have e2 : bEnd x (wend i) = i + w.length + t.length := by
      rw [e1]
      exact bEnd_at h0.app ht (fun c hc => by rw [hT.head c hc]; rfl)
    have h2 := h0.app.app
    have hl := h2.len
    have es : (⟨x.cps.extract i (wend i)⟩ : Str) = ⟨w.toArray⟩ := by rw [e1, h0.sub]
    unfold rdF
    rw [if_neg (by have := hw.1; omega), es]
    cases trail with
    | nil => rw [if_pos (by rw [e2, hl]; rfl)]; rfl
    | cons d trail =>
      have hd := hT.head d rfl
      subst hd
      have e3 : cEnd x (bEnd x (wend i)) = x.length := by
        rw [e2, cEnd_at hT (l := []) (by simpa using h2) (fun c hc => by cases hc), hl]
      rw [if_neg (by rw [e2, hl]; simp), if_pos (by rw [e2]; exact h2.get), if_pos e3]
      rfl
  | cons p rest ih =>
    intro w t n i acc h hw ht hr hn
    obtain ⟨n, rfl⟩ : ∃ k, n = k + 1 := ⟨n - 1, by simp at hn; omega⟩
    obtain ⟨hp, hb, ht2⟩ := hr p (List.mem_cons_self ..)
    have h0 : At x i (w ++ (t ++ (44 :: (p.1 ++ (p.2.1 ++ (p.2.2 ++ (rest.flatMap lay ++ trail))))))) := by simpa [List.flatMap_cons, lay] using h
    have e1 : wend i = i + w.length := hw.2.2 i _ h0 (fun c hc => by
      cases t with
      | nil => exact .inl (by simpa using hc.symm)
      | cons d t => have : d = c := by simpa using hc
                    subst this; exact .inr (ht d (List.mem_cons_self ..)))
    have e2 : bEnd x (wend i) = i + w.length + t.length := by
      rw [e1]
      exact bEnd_at h0.app ht (fun c hc => by have : (44 : Nat) = c := by simpa using hc
                                              subst this; rfl)
    have h2 := h0.app.app
    have hl := h2.len
    have es : (⟨x.cps.extract i (wend i)⟩ : Str) = ⟨w.toArray⟩ := by rw [e1, h0.sub]
    have h3 : At x (i + w.length + t.length) ((44 :: (p.1 ++ [])) ++ (p.2.1 ++ (p.2.2 ++ (rest.flatMap lay ++ trail)))) := by simpa using h2
    have e3 : cEnd x (bEnd x (wend i)) = i + w.length + t.length + (44 :: (p.1 ++ [])).length := by
      rw [e2]
      refine cEnd_at (Commas.cons hb Commas.nil) h3 (fun c hc => ?_)
      refine hp.2.1 c ?_
      cases hq : p.2.1 with
      | nil => have := hp.1; rw [hq] at this; cases this
      | cons d q => rw [hq] at hc; simpa using hc
    have h4 := h3.app
    have hl4 := h4.len
    have hp1 := hp.1
    unfold rdF
    rw [if_neg (by have := hw.1; omega), es, if_neg (by rw [e2, hl]; simp), if_pos (by rw [e2]; exact h2.get), if_neg (by
      rw [e3, hl4]; simp only [List.length_append]; omega), e3]
    rw [ih p.2.1 p.2.2 n _ _ h4 hp ht2 (fun p hp => hr p (List.mem_cons_of_mem _ hp)) (by simp at hn; omega)]
    simp
/-- a laid header reads as its items -/
theorem read_at {wend : Nat → Nat} {x : Str} {lead trail w t : List Nat} {rest : List (List Nat × List Nat × List Nat)} (hL : Commas lead) (hT : Commas trail)
    (h : x.cps.toList = lead ++ (w ++ (t ++ (rest.flatMap lay ++ trail)))) (hw : IsItem wend x w) (ht : ∀ c ∈ t, isBlank c = true)
    (hr : ∀ p ∈ rest, IsItem wend x p.2.1 ∧ (∀ c ∈ p.1, isBlank c = true) ∧ (∀ c ∈ p.2.2, isBlank c = true)) :
    readR wend x = .ok (⟨w.toArray⟩ :: rest.map fun p => ⟨p.2.1.toArray⟩) := by
  have h0 : At x 0 (lead ++ (w ++ (t ++ (rest.flatMap lay ++ trail)))) := ⟨Nat.zero_le _, h⟩
  have e : cEnd x 0 = 0 + lead.length := cEnd_at hL h0 (fun c hc => hw.2.1 c (by
      cases hq : w with
      | nil => have := hw.1; rw [hq] at this; cases this
      | cons d q => rw [hq] at hc; simpa using hc))
  unfold readR
  rw [e]
  have hlen : rest.length ≤ (rest.flatMap lay).length := by
    clear hr h h0 e
    induction rest with
    | nil => exact Nat.le_refl _
    | cons p r ih => rw [List.flatMap_cons, List.length_append, List.length_cons]; have : 0 < (lay p).length := by simp
                     omega
  have := rd_at (n := x.length + 1) (acc := []) hT rest w t _ h0.app hw ht hr (by have := h0.len; simp only [List.length_append] at this; omega)
  simpa using this
/-- a word of marks is an item -/
theorem item_w {x : Str} {w : List Nat} (h0 : 0 < w.length) (hw : ∀ c ∈ w, isMark c = true) : IsItem (wEnd x) x w := by
  have nm : ∀ c, c = 44 ∨ isBlank c = true → isMark c = false := by
    rintro c (rfl | h)
    · rfl
    · unfold isBlank at h
      simp at h
      rcases h with rfl | rfl <;> rfl
  refine ⟨h0, fun c hc => ?_, fun i l h hl => wEnd_at h hw fun c hc => nm c (hl c hc)⟩
  have hm := hw c (List.mem_of_mem_head? hc)
  refine ⟨?_, ?_⟩
  · rintro rfl; cases hm
  · cases hb : isBlank c with
    | false => rfl
    | true => rw [nm c (.inr hb)] at hm; cases hm
theorem item_u {x : Str} {w : List Nat} (h0 : 0 < w.length) (hw : ∀ c ∈ w, isMark c = true) : IsItem (uEnd x) x w := by
  obtain ⟨_, h1, h2⟩ := item_w (x := x) h0 hw
  refine ⟨h0, h1, fun i l h hl => ?_⟩
  have e := h2 i l h hl
  unfold uEnd
  rw [e]
  split
  · split
    · split
      · rename_i _ _ h3
        exfalso
        cases l with
        | nil => have := h.len; simp at this; omega
        | cons c l =>
          have := h.app.get
          rw [this] at h3
          have : c = 47 := by simpa using h3
          subst this
          rcases hl 47 rfl with h | h <;> cases h
      · rfl
    · rfl
  · rfl
theorem item_uu {x : Str} {w v : List Nat} (h0 : 0 < w.length) (hw : ∀ c ∈ w, isMark c = true) (v0 : 0 < v.length) (hv : ∀ c ∈ v, isMark c = true) : IsItem (uEnd x) x (w ++ 47 :: v) := by
  obtain ⟨_, h1, _⟩ := item_w (x := x) h0 hw
  obtain ⟨_, _, h3⟩ := item_w (x := x) v0 hv
  refine ⟨by simp only [List.length_append, List.length_cons]; omega, fun c hc => h1 c ?_, fun i l h hl => ?_⟩
  · cases w with
    | nil => cases h0
    | cons d w => simpa using hc
  · have h' : At x i (w ++ (47 :: (v ++ l))) := by simpa using h
    have e := wEnd_at h' hw (fun c hc => by have : (47 : Nat) = c := by simpa using hc
                                            subst this; rfl)
    have h4 := h'.app
    have hg := h4.get
    have h5 := h4.step
    have e2 := h3 _ _ h5 hl
    have hl5 := h4.len
    simp at hl5
    unfold uEnd
    rw [e, if_pos (by omega), if_pos (by omega), hg, if_pos (by rfl), e2, if_pos (by omega)]
    simp only [List.length_append, List.length_cons]
    omega
end
theorem fresh28 : True := by
  w_top off
  trivial
section
/-- a sign as it stands in a quoted string -/
def esc (c : Nat) : List Nat := if isQt c then [92, c] else [c]
theorem At.mk' {t : Array Nat} {i : Nat} {l : List Nat} (h : t.toList.drop i = l) (hi : i ≤ t.size) : At ⟨t⟩ i l := ⟨hi, h⟩
theorem At.get' {t : Array Nat} {i c : Nat} {l : List Nat} (h : At ⟨t⟩ i (c :: l)) : t.getD i 0 = c := h.get
theorem At.sub' {t : Array Nat} {i : Nat} {a l : List Nat} (h : At ⟨t⟩ i (a ++ l)) : t.extract i (i + a.length) = a.toArray := h.sub
theorem At.len' {t : Array Nat} {i : Nat} {l : List Nat} (h : At ⟨t⟩ i l) : t.size = i + l.length := h.len
theorem At.end {t : Array Nat} {i : Nat} {l : List Nat} (h : At ⟨t⟩ i l) : t.extract i t.size = l.toArray := by
  have h' : At ⟨t⟩ i (l ++ []) := by simpa using h
  rw [h.len']; exact h'.sub'
/-- the first sign that q takes -/
theorem split_q (q : Nat → Bool) : ∀ l : List Nat, (∀ c ∈ l, q c = false) ∨ ∃ a c b, l = a ++ c :: b ∧ (∀ c ∈ a, q c = false) ∧ q c = true := by
  intro l
  induction l with
  | nil => exact .inl (fun _ h => nomatch h)
  | cons c l ih =>
    cases hc : q c with
    | true => exact .inr ⟨[], c, l, rfl, (fun _ h => nomatch h), hc⟩
    | false =>
      rcases ih with h | ⟨a, d, b, rfl, h1, h2⟩
      · exact .inl (fun d hd => (List.mem_cons.mp hd).elim (fun e => e ▸ hc) (h d))
      · exact .inr ⟨c :: a, d, b, rfl, fun d hd => (List.mem_cons.mp hd).elim (fun e => e ▸ hc) (h1 d), h2⟩
section
variable {t : Array Nat}
theorem sFind_none : ∀ (l : List Nat) (f i : Nat), At ⟨t⟩ i l → (∀ c ∈ l, isQt c = false) → sFind t t.size f i = none := by
  intro l
  induction l with
  | nil =>
    intro f i h _
    cases f with
    | zero => rfl
    | succ f => unfold sFind; rw [if_neg (by have := h.len'; simp at this; omega)]
  | cons c l ih =>
    intro f i h hl
    cases f with
    | zero => rfl
    | succ f =>
      unfold sFind
      rw [if_pos (by have := h.len'; simp at this; omega), h.get', if_neg (by rw [hl c (List.mem_cons_self ..)]; decide)]
      exact ih f _ h.step (fun d hd => hl d (List.mem_cons_of_mem _ hd))
theorem sFind_some : ∀ (a : List Nat) (c : Nat) (b : List Nat) (f i : Nat), At ⟨t⟩ i (a ++ c :: b) → (∀ c ∈ a, isQt c = false) → isQt c = true → a.length < f → sFind t t.size f i = some (i + a.length) := by
  intro a
  induction a with
  | nil =>
    intro c b f i h _ hc hf
    obtain ⟨f, rfl⟩ : ∃ k, f = k + 1 := ⟨f - 1, by simp at hf; omega⟩
    have := h.len'
    simp at this
    unfold sFind
    rw [if_pos (by omega), At.get' (l := b) h, if_pos hc]; rfl
  | cons d a ih =>
    intro c b f i h ha hc hf
    obtain ⟨f, rfl⟩ : ∃ k, f = k + 1 := ⟨f - 1, by simp at hf; omega⟩
    have := h.len'
    simp at this
    unfold sFind
    rw [if_pos (by omega), At.get' (l := a ++ c :: b) h, if_neg (by rw [ha d (List.mem_cons_self ..)]; decide),
      ih c b f _ (At.step (l := a ++ c :: b) h) (fun e he => ha e (List.mem_cons_of_mem _ he)) hc (by simp at hf; omega)]
    simp; omega
theorem esc_plain {l : List Nat} (h : ∀ c ∈ l, isQt c = false) : l.flatMap esc = l := by
  induction l with
  | nil => rfl
  | cons c l ih =>
    rw [List.flatMap_cons, ih (fun d hd => h d (List.mem_cons_of_mem _ hd))]
    unfold esc
    rw [if_neg (by rw [h c (List.mem_cons_self ..)]; decide)]; rfl
theorem sub_q : ∀ (f d : Nat) (l : List Nat), At ⟨t⟩ d l → l.length < f →
    (subGo (qF t) (fun y => Str.ofString "\\" ++ y) t f d).flatMap (·.cps.toList) = l.flatMap esc := by
  intro f
  induction f with
  | zero => intro d l _ h; omega
  | succ f ih =>
    intro d l h hf
    have hl := h.len'
    unfold subGo
    rcases split_q isQt l with hn | ⟨a, c, b, rfl, ha, hc⟩
    · have e : qF t d = none := by unfold qF; rw [sFind_none l _ d h hn]; rfl
      rw [e, esc_plain hn]
      dsimp only
      split
      · rw [h.end]; simp
      · have : l = [] := List.eq_nil_of_length_eq_zero (by omega)
        rw [this]; rfl
    · simp at hl
      have e : qF t d = some (d + a.length, d + a.length, d + a.length + 1) := by
        unfold qF; rw [sFind_some a c b _ d h ha hc (by omega)]; rfl
      rw [e]
      dsimp only
      have h2 : At ⟨t⟩ (d + a.length) ([c] ++ b) := by simpa using h.app
      have h3 : At ⟨t⟩ (d + a.length + 1) b := h2.app
      have hx : t.extract (d + a.length) (d + a.length + 1) = #[c] := h2.sub'
      rw [List.flatMap_append, List.flatMap_append, ih _ _ h3 (by simp at hf; omega), hx, List.flatMap_append, esc_plain ha, List.flatMap_cons (f := esc)]
      have e1 : (if d < d + a.length then [(⟨t.extract d (d + a.length)⟩ : Str)] else []).flatMap (·.cps.toList) = a := by
        rw [At.sub' (l := c :: b) h]
        split
        · simp
        · have : a = [] := List.eq_nil_of_length_eq_zero (by omega)
          rw [this]; rfl
      have e2 : esc c = [92, c] := by unfold esc; rw [if_pos hc]
      rw [e1, e2]
      simp only [List.flatMap_cons, List.flatMap_nil, List.append_nil, List.append_assoc]
      rfl
end
theorem bqOut_list (x : Str) : (bqOut x).cps.toList = 34 :: (x.cps.toList.flatMap esc ++ [34]) := by
  unfold bqOut
  show ((Str.ofString "\"").cps ++ (Txt.join ⟨#[]⟩ _).cps ++ (Str.ofString "\"").cps).toList = _
  rw [Array.toList_append, Array.toList_append, join_flat, sub_q (t := x.cps) (x.length + 1) 0 x.cps.toList (At.all x) (by rw [← len_list]; omega)]
  rfl
/-- every sign may stand in a quoted string -/
def Fine (l : List Nat) : Prop := ∀ c ∈ l, isQp c = true ∧ (isQt c = false → isQd c = true)
section
variable {x : Str}
theorem qd_34 : isQd 34 = false := by decide
theorem qd_92 : isQd 92 = false := by decide
theorem esc_yes {c : Nat} (h : isQt c = true) : esc c = [92, c] := by unfold esc; rw [if_pos h]
theorem esc_no {c : Nat} (h : isQt c = false) : esc c = [c] := by unfold esc; rw [if_neg (by rw [h]; decide)]
theorem scan_some {post : List Nat} : ∀ (l : List Nat) (f p : Nat), At x p (l.flatMap esc ++ 34 :: post) → Fine l → (l.flatMap esc).length < f →
    qScan x.cps x.length f p = some (p + (l.flatMap esc).length + 1) := by
  intro l
  induction l with
  | nil =>
    intro f p h _ hf
    obtain ⟨f, rfl⟩ : ∃ k, f = k + 1 := ⟨f - 1, by omega⟩
    have := h.len
    simp at this
    unfold qScan
    rw [if_pos (by omega), At.get (l := post) h, qd_34, if_neg (by decide), if_neg (by simp), if_pos (by decide)]
    rfl
  | cons c l ih =>
    intro f p h hl hf
    obtain ⟨f, rfl⟩ : ∃ k, f = k + 1 := ⟨f - 1, by omega⟩
    obtain ⟨q1, q2⟩ := hl c (List.mem_cons_self ..)
    have hl' : Fine l := fun d hd => hl d (List.mem_cons_of_mem _ hd)
    rw [List.flatMap_cons] at h hf ⊢
    cases hc : isQt c with
    | true =>
      rw [esc_yes hc] at h hf ⊢
      have h0 : At x p (92 :: c :: (l.flatMap esc ++ 34 :: post)) := by simpa using h
      have := h0.len
      simp at this
      unfold qScan
      rw [if_pos (by omega), h0.get, qd_92, if_neg (by decide), h0.step.get, q1, if_pos (by simp; omega), ih f (p + 2) h0.step.step hl' (by simp at hf ⊢; omega)]
      simp; omega
    | false =>
      rw [esc_no hc] at h hf ⊢
      have h0 : At x p (c :: (l.flatMap esc ++ 34 :: post)) := by simpa using h
      have := h0.len
      simp at this
      unfold qScan
      rw [if_pos (by omega), h0.get, q2 hc, if_pos rfl, ih f (p + 1) h0.step hl' (by simp at hf ⊢; omega)]
      simp; omega
theorem scan_none : ∀ (l : List Nat) (f p : Nat), At x p (l.flatMap esc) → Fine l → qScan x.cps x.length f p = none := by
  intro l
  induction l with
  | nil =>
    intro f p h _
    cases f with
    | zero => rfl
    | succ f => unfold qScan; rw [if_neg (by have := h.len; simp at this; omega)]
  | cons c l ih =>
    intro f p h hl
    cases f with
    | zero => rfl
    | succ f =>
      obtain ⟨q1, q2⟩ := hl c (List.mem_cons_self ..)
      have hl' : Fine l := fun d hd => hl d (List.mem_cons_of_mem _ hd)
      rw [List.flatMap_cons] at h
      cases hc : isQt c with
      | true =>
        rw [esc_yes hc] at h
        have h0 : At x p (92 :: c :: (l.flatMap esc)) := by simpa using h
        have := h0.len
        simp at this
        unfold qScan
        rw [if_pos (by omega), h0.get, qd_92, if_neg (by decide), h0.step.get, q1, if_pos (by simp; omega)]
        exact ih f (p + 2) h0.step.step hl'
      | false =>
        rw [esc_no hc] at h
        have h0 : At x p (c :: (l.flatMap esc)) := by simpa using h
        have := h0.len
        simp at this
        unfold qScan
        rw [if_pos (by omega), h0.get, q2 hc, if_pos rfl]
        exact ih f (p + 1) h0.step hl'
theorem find_some {l post : List Nat} {i : Nat} (h : At x i (34 :: (l.flatMap esc ++ 34 :: post))) (hl : Fine l) : qFind x.cps x.length i = some (i + (l.flatMap esc).length + 2) := by
  have hn := h.len
  simp only [List.length_cons, List.length_append] at hn
  unfold qFind
  rw [if_pos (by rw [h.get]; simp; omega), scan_some l _ _ h.step hl (by omega)]
  congr 1; omega
theorem find_cut {l : List Nat} (h : x.cps.toList = 34 :: l.flatMap esc) (hl : Fine l) : qFind x.cps x.length 0 = none := by
  have h0 : At x 0 (34 :: l.flatMap esc) := ⟨Nat.zero_le _, h⟩
  have hn := h0.len
  simp only [List.length_cons] at hn
  unfold qFind
  rw [if_pos (by rw [h0.get]; simp; omega)]
  exact scan_none l _ _ h0.step hl
theorem find_off {c : Nat} {l : List Nat} (h : x.cps.toList = c :: l) (hc : c ≠ 34) : qFind x.cps x.length 0 = none := by
  have h0 : At x 0 (c :: l) := ⟨Nat.zero_le _, h⟩
  unfold qFind
  rw [if_neg (by rw [h0.get]; simp [hc])]
end
section
variable {t : Array Nat}
theorem qt_cases {c : Nat} (h : isQt c = false) : (c == 92) = false := by
  unfold isQt at h; simp at h; simp [h.2]
theorem uFind_plain : ∀ (l : List Nat) (f i : Nat), At ⟨t⟩ i l → (∀ c ∈ l, isQt c = false) → uFind t t.size f i = none := by
  intro l
  induction l with
  | nil =>
    intro f i h _
    cases f with
    | zero => rfl
    | succ f => unfold uFind; rw [if_neg (by have := h.len'; simp at this; omega)]
  | cons c l ih =>
    intro f i h hl
    cases f with
    | zero => rfl
    | succ f =>
      unfold uFind
      rw [if_pos (by have := h.len'; simp at this; omega), h.get', qt_cases (hl c (List.mem_cons_self ..)), if_neg (by simp)]
      exact ih f _ h.step (fun d hd => hl d (List.mem_cons_of_mem _ hd))
theorem uFind_at : ∀ (a : List Nat) (c : Nat) (b : List Nat) (f i : Nat), At ⟨t⟩ i (a ++ 92 :: c :: b) → (∀ c ∈ a, isQt c = false) → isQp c = true → a.length < f → uFind t t.size f i = some (i + a.length) := by
  intro a
  induction a with
  | nil =>
    intro c b f i h _ hc hf
    obtain ⟨f, rfl⟩ : ∃ k, f = k + 1 := ⟨f - 1, by simp at hf; omega⟩
    have h0 : At ⟨t⟩ i (92 :: c :: b) := h
    have := h0.len'
    simp at this
    unfold uFind
    rw [if_pos (by omega), h0.get', h0.step.get', hc, if_pos (by simp; omega)]; rfl
  | cons d a ih =>
    intro c b f i h ha hc hf
    obtain ⟨f, rfl⟩ : ∃ k, f = k + 1 := ⟨f - 1, by simp at hf; omega⟩
    have h0 : At ⟨t⟩ i (d :: (a ++ 92 :: c :: b)) := h
    have := h0.len'
    simp at this
    unfold uFind
    rw [if_pos (by omega), h0.get', qt_cases (ha d (List.mem_cons_self ..)), if_neg (by simp), ih c b f _ h0.step (fun e he => ha e (List.mem_cons_of_mem _ he)) hc (by simp at hf; omega)]
    simp; omega
theorem sub_u : ∀ (f d : Nat) (l : List Nat), At ⟨t⟩ d (l.flatMap esc) → Fine l → l.length < f →
    (subGo (uF t) id t f d).flatMap (·.cps.toList) = l := by
  intro f
  induction f with
  | zero => intro d l _ _ h; omega
  | succ f ih =>
    intro d l h hl hf
    have hlen := h.len'
    unfold subGo
    rcases split_q isQt l with hn | ⟨a, c, b, rfl, ha, hc⟩
    · rw [esc_plain hn] at h hlen
      have e : uF t d = none := by unfold uF; rw [uFind_plain l _ d h hn]; rfl
      rw [e]
      dsimp only
      split
      · rw [h.end]; simp
      · have : l = [] := List.eq_nil_of_length_eq_zero (by omega)
        rw [this]; rfl
    · have h0 : At ⟨t⟩ d (a ++ 92 :: c :: b.flatMap esc) := by simpa [List.flatMap_append, esc_plain ha, esc_yes hc] using h
      have hlen := h0.len'
      simp at hlen
      have e : uF t d = some (d + a.length, d + a.length + 1, d + a.length + 2) := by
        unfold uF; rw [uFind_at a c _ _ d h0 ha (hl c (by simp)).1 (by omega)]; rfl
      rw [e]
      dsimp only
      have h2 : At ⟨t⟩ (d + a.length + 1) ([c] ++ b.flatMap esc) := by simpa using h0.app.step
      have h3 : At ⟨t⟩ (d + a.length + 2) (b.flatMap esc) := h2.app
      have hx : t.extract (d + a.length + 1) (d + a.length + 2) = #[c] := h2.sub'
      rw [List.flatMap_append, List.flatMap_append, ih _ _ h3 (fun d hd => hl d (by simp [hd])) (by simp at hf; omega), hx]
      have e1 : (if d < d + a.length then [(⟨t.extract d (d + a.length)⟩ : Str)] else []).flatMap (·.cps.toList) = a := by
        rw [At.sub' (l := 92 :: c :: b.flatMap esc) h0]
        split
        · simp
        · have : a = [] := List.eq_nil_of_length_eq_zero (by omega)
          rw [this]; rfl
      rw [e1]
      simp [id]
end
theorem esc_len (l : List Nat) : l.length ≤ (l.flatMap esc).length := by
  induction l with
  | nil => exact Nat.le_refl _
  | cons c l ih =>
    rw [List.flatMap_cons, List.length_append, List.length_cons]
    have : 1 ≤ (esc c).length := by unfold esc; split <;> simp
    omega
theorem qsOut_at {x : Str} {i : Nat} {l post : List Nat} (h : At x i (34 :: (l.flatMap esc ++ 34 :: post))) (hl : Fine l) : qsOut x i (i + (l.flatMap esc).length + 2) = ⟨l.toArray⟩ := by
  have e : x.cps.extract (i + 1) (i + (l.flatMap esc).length + 2 - 1) = (l.flatMap esc).toArray := by
    have := h.step.sub
    rwa [show i + 1 + (l.flatMap esc).length = i + (l.flatMap esc).length + 2 - 1 by omega] at this
  have e2 : (qsOut x i (i + (l.flatMap esc).length + 2)).cps.toList = l := by
    unfold qsOut
    rw [e, join_flat]
    refine sub_u _ 0 l ⟨Nat.zero_le _, rfl⟩ hl ?_
    have := esc_len l
    show l.length < ((l.flatMap esc).toArray).size + 1
    rw [List.size_toArray]; omega
  generalize qsOut x i (i + (l.flatMap esc).length + 2) = y at e2
  rw [← e2]
theorem qp_all {x : Str} (h : ∀ c ∈ x.cps.toList, isQp c = true) : AllQp x := by
  have h0 : At x 0 (x.cps.toList ++ []) := by simpa using At.all x
  have := run_at (q := isQp) h0 h (fun c hc => by cases hc)
  unfold AllQp
  rw [Nat.sub_zero] at this
  rw [this, ← len_list]; omega
theorem qp_not {x : Str} {a : List Nat} {c : Nat} {b : List Nat} (h : x.cps.toList = a ++ c :: b) (ha : ∀ c ∈ a, isQp c = true) (hc : isQp c = false) : ¬ AllQp x := by
  have h0 : At x 0 (a ++ c :: b) := ⟨Nat.zero_le _, h⟩
  have := run_at (q := isQp) h0 ha (fun d hd => by have : c = d := by simpa using hd
                                                   subst this; exact hc)
  have hl := h0.len
  simp at hl
  unfold AllQp
  rw [Nat.sub_zero] at this
  rw [this]; omega
end
theorem fresh29 : True := by
  w_top off
  trivial
section
/-- what _law_laid has after k words -/
def LaidPre (ws : List Str) (k : Nat) (T : List Nat) : Prop :=
  ∃ lead : List Nat, Commas lead ∧ ((k = 0 ∧ T = lead) ∨ ∃ (w t : List Nat) (rest : List (List Nat × List Nat × List Nat)), T = lead ++ (w ++ (t ++ rest.flatMap lay)) ∧ (∀ c ∈ t, isBlank c = true) ∧ (∀ p ∈ rest, (∀ c ∈ p.1, isBlank c = true) ∧ (∀ c ∈ p.2.2, isBlank c = true)) ∧ ws.take k = ⟨w.toArray⟩ :: rest.map fun p => ⟨p.2.1.toArray⟩)
def Laid (ws : List Str) (x : Str) : Prop :=
  ∃ (lead trail w t : List Nat) (rest : List (List Nat × List Nat × List Nat)), Commas lead ∧ Commas trail ∧ x.cps.toList = lead ++ (w ++ (t ++ (rest.flatMap lay ++ trail))) ∧ (∀ c ∈ t, isBlank c = true) ∧ (∀ p ∈ rest, (∀ c ∈ p.1, isBlank c = true) ∧ (∀ c ∈ p.2.2, isBlank c = true)) ∧ ws = ⟨w.toArray⟩ :: rest.map fun p => ⟨p.2.1.toArray⟩
theorem Laid.reads {wend : Nat → Nat} {ws : List Str} {x : Str} (h : Laid ws x) (hw : ∀ y ∈ ws, IsItem wend x y.cps.toList) : readR wend x = .ok ws := by
  obtain ⟨lead, trail, w, t, rest, h1, h2, h3, h4, h5, rfl⟩ := h
  refine read_at h1 h2 h3 (hw _ (List.mem_cons_self ..)) h4 (fun p hp => ⟨?_, h5 p hp⟩)
  exact hw ⟨p.2.1.toArray⟩ (List.mem_cons_of_mem _ (List.mem_map.mpr ⟨p, hp, rfl⟩))
theorem LaidPre.turn0 {ws : List Str} {T : List Nat} {y : Str} {t : List Nat} (h : LaidPre ws 0 T) (hy : ws[0]? = some y) (ht : ∀ c ∈ t, isBlank c = true) : LaidPre ws 1 (T ++ (y.cps.toList ++ t)) := by
  obtain ⟨lead, hL, h | h⟩ := h
  · obtain ⟨_, rfl⟩ := h
    refine ⟨T, hL, .inr ⟨y.cps.toList, t, [], by simp, ht, (fun _ h => nomatch h), ?_⟩⟩
    rw [List.take_add_one, List.take_zero, hy]; rfl
  · obtain ⟨w, t, rest, _, _, _, e⟩ := h
    rw [List.take_zero] at e; cases e
theorem LaidPre.turn {ws : List Str} {k : Nat} {T : List Nat} {y : Str} {b t : List Nat} (h : LaidPre ws (k + 1) T) (hy : ws[k + 1]? = some y) (hb : ∀ c ∈ b, isBlank c = true) (ht : ∀ c ∈ t, isBlank c = true) :
    LaidPre ws (k + 2) (T ++ (44 :: (b ++ (y.cps.toList ++ t)))) := by
  obtain ⟨lead, hL, h | h⟩ := h
  · exact absurd h.1 (by omega)
  · obtain ⟨w, t0, rest, rfl, h1, h2, e⟩ := h
    refine ⟨lead, hL, .inr ⟨w, t0, rest ++ [(b, y.cps.toList, t)], by simp [lay], h1, fun p hp => ?_, ?_⟩⟩
    · rcases List.mem_append.mp hp with hp | hp
      · exact h2 p hp
      · rw [List.mem_singleton.mp hp]; exact ⟨hb, ht⟩
    · rw [List.take_add_one, e, hy]; simp
theorem LaidPre.done {ws : List Str} {x : Str} {T trail : List Nat} (h : LaidPre ws ws.length T) (h0 : 0 < ws.length) (hT : Commas trail) (hx : x.cps.toList = T ++ trail) : Laid ws x := by
  obtain ⟨lead, hL, h | h⟩ := h
  · exact absurd h.1 (by omega)
  · obtain ⟨w, t, rest, rfl, h1, h2, e⟩ := h
    rw [List.take_length] at e
    exact ⟨lead, trail, w, t, rest, hL, hT, by rw [hx]; simp, h1, h2, e⟩
theorem two_turn {a b : Str} {A B C : Value} {bv : Option Value} {m₀ : Str → Option Value} : (fun y => if y = a then some A else if y = b then some C else two a b B bv m₀ y) = two a b A (some C) m₀ := by
  funext y
  by_cases h1 : y = a
  · simp only [two, if_pos h1]
  · simp only [two, if_neg h1]
    by_cases h2 : y = b
    · simp only [if_pos h2]
    · simp only [if_neg h2]
section
variable {prog : Program} {w : World} {A : Around} {E : Value → Shared → Prop} {s : Shared} {h₀ : Heap} {L D : Addr} {news : List (Addr × Obj)} {n : Nat}
/-- an item of a list of strs -/
theorem sub_M {B : Nat} {value slice : PySem.Expr} {vs : List Value} {ws : List Str} {k : Int} {u : Tok} {Q : Value → Shared → Prop} (N : News h₀ L s.heap news) (hm : (D, listOf vs.toArray n) ∈ news) (hs : SA vs ws) (h0 : 0 ≤ k) (h1 : k < ws.length) (hl : ws.length ≤ 1000) (hB : ∀ y ∈ ws, y.length ≤ B)
    (h : ∀ y t, ws[k.toNat]? = some y → y.length ≤ B → Q (.str y t) s)
    (hsb : subscripted slice false (.ref D) (.int k u) = operate [.ref D, .int k u] (getItem (.ref D) (.int k u)) := by with_unfolding_all rfl) :
    wpAny (model prog w) A (subscriptTail value slice (.ref D) (.int k u)) Q E s := by
  have hj : k.toNat < ws.length := by omega
  have e := List.getElem?_eq_getElem hj
  obtain ⟨t, ht⟩ := PyProof.Rows.StrsAre.get hs k.toNat ws[k.toNat] e
  exact sub_L N hm h0 (by omega) (x := .str ws[k.toNat] t) (by rw [List.getElem?_toArray]; exact ht) (h _ t e (hB _ (List.mem_of_getElem? e))) hsb
theorem len_S {vs : List Value} {ws : List Str} {Q : Value → Shared → Prop} (N : News h₀ L s.heap news) (hm : (D, listOf vs.toArray n) ∈ news) (hs : SA vs ws) (hl : ws.length ≤ 1000) (h : ∀ t tk, Q (.int (ws.length : Nat) t) { s with toks := tk }) :
    wpAny (model prog w) A (call (.builtin "len") [.ref D]) Q E s := by
  have e : vs.toArray.size = ws.length := by rw [List.size_toArray]; exact hs.len_eq
  refine call_len_list (PySem.IsL.isList (n := n) (N _ hm).1) (by omega) ?_
  rw [e]
  exact h _ _
theorem mul_if {x : Str} {b : Bool} {t u : Tok} {Q : Value → Shared → Prop} (hx : x.length ≤ 16) (h : ∀ z t' k, z = (if b = true then x else Str.empty) → z.length ≤ x.length → Q (.str z t') { s with toks := k }) :
    wpAny (model prog w) A (binaryOp .Mult (.str x t) (.int (if b = true then 1 else 0) u)) Q E s := by
  cases b with
  | true =>
    refine SB.mul (n := 1) (mulOk_of 16 1048576 (by omega) (by decide) (by decide) (by decide) (by decide)) (fun t' k => ?_)
    exact h x t' k rfl (Nat.le_refl _)
  | false =>
    refine SB.mul (n := 0) (mulOk_of 16 1048576 (by omega) (by decide) (by decide) (by decide) (by decide)) (fun t' k => ?_)
    exact h Str.empty t' k rfl (Nat.zero_le _)
theorem sub_M3 {value slice : PySem.Expr} {vs : List Value} {ws : List Str} {k : Int} {u : Tok} {Q : Value → Shared → Prop} (N : News h₀ L s.heap news) (hm : (D, listOf vs.toArray n) ∈ news) (hs : SA vs ws) (h0 : 0 ≤ k) (h1 : k < ws.length) (hl : ws.length ≤ 1000) (hB : (ws.all fun y => Nat.ble y.length 3) = true)
    (h : ∀ y t, ws[k.toNat]? = some y → y.length ≤ 3 → Q (.str y t) s)
    (hsb : subscripted slice false (.ref D) (.int k u) = operate [.ref D, .int k u] (getItem (.ref D) (.int k u)) := by with_unfolding_all rfl) :
    wpAny (model prog w) A (subscriptTail value slice (.ref D) (.int k u)) Q E s :=
  sub_M N hm hs h0 h1 hl (fun y hy => Nat.le_of_ble_eq_true (List.all_eq_true.mp hB y hy)) h hsb
end
def LdJ (ws : List Str) (S A : Addr) (place seed : Int) (ts : Tok) (n : Nat) (rest : List (Addr × Obj)) (m₀ : Str → Option Value) (i : Nat) (m : Str → Option Value) (nx : List (Addr × Obj)) : Prop :=
  ∃ (T : Str) (tok : Tok) (kv : Option Value) (pl : Int) (tq : Tok), m = two "text" "k" (.str T tok) kv m₀ ∧ nx = (S, stO A pl tq seed ts n) :: rest ∧ LaidPre ws i T.cps.toList ∧ T.length ≤ 3 + 14 * i ∧ place ≤ pl ∧ pl ≤ place + 1 + 2 * i
section
variable {prog : Program} {w : World} {A : Around} {E : Value → Shared → Prop} {Q : Flow → Shared → Prop} {s : Shared} {env : Env} {h₀ : Heap}
theorem ld_loop {ws : List Str} {S A' : Addr} {place seed : Int} {tq ts : Tok} {n : Nat} {rest : List (Addr × Obj)} {T : Str} {tok : Tok} {body : List Stmt} {r : Addr} {t₀ u₀ v₀ : Tok} {m : Str → Option Value}
    (hh : A.handled = none) (hr : IsRange s.heap r 0 (ws.length : Nat) 1 t₀ u₀ v₀) (h4 : ws.length ≤ 4) (F : Fr h₀ env.locals s.heap m) (N : News h₀ env.locals s.heap ((S, stO A' (place + 1) tq seed ts n) :: rest)) (hm : m "text" = some (.str T tok)) (hT : Commas T.cps.toList) (h3 : T.length ≤ 3)
    (turn : ∀ i t I it m₁ nx h tk, i < ws.length → LdJ ws S A' place seed ts n rest m i m₁ nx → (∀ p ∈ (S, stO A' (place + 1) tq seed ts n) :: rest, p.1 < I) → Fr h₀ env.locals h (fun y => if y = "k" then some (.int (i : Int) t) else m₁ y) → News h₀ env.locals h ((I, it) :: nx) →
      wpAny (model prog w) A (execs body env) (FOne h₀ env.locals { s with heap := h, toks := tk } I it (LdJ ws S A' place seed ts n rest m (i + 1)) Q) E { s with heap := h, toks := tk })
    (exit : ∀ m₁ nx h tk, LdJ ws S A' place seed ts n rest m ws.length m₁ nx → Fr h₀ env.locals h m₁ → News h₀ env.locals h nx → Q .next { s with heap := h, toks := tk }) :
    wpAny (model prog w) A (pyIter (.ref r)) (fun it s₂ => LoopAtV prog w A h₀ env "k" body Q E it s₂) E s :=
  for_rangeF (n := ws.length) (LdJ ws S A' place seed ts n rest m) hh hr (small_one (by omega) (by omega) (by omega) (by omega)) (by rw [rangeSize_nat]; omega) F N ⟨T, tok, m "k", place + 1, tq, two_init hm, rfl, ⟨_, hT, .inl ⟨rfl, rfl⟩⟩, by omega, by omega, by omega⟩ turn exit
end
theorem ld_turn {s : Shared} {h₀ h' : Heap} {tk' : Nat} {L S A I : Addr} {it : Obj} {a b : Addr × Obj} {ws : List Str} {place pl seed : Int} {tq ts tok : Tok} {n i : Nat} {rest : List (Addr × Obj)} {m₀ : Str → Option Value} {T : Str} {B C : Value} {kv : Option Value} {Q : Flow → Shared → Prop}
    (F : Fr h₀ L h' (fun y => if y = "text" then some (.str T tok) else if y = "k" then some C else two "text" "k" B kv m₀ y)) (N : News h₀ L h' (a :: b :: (I, it) :: (S, stO A pl tq seed ts n) :: rest)) (l : S < I ∧ AllLt I rest)
    (hP : LaidPre ws (i + 1) T.cps.toList) (hT : T.length ≤ 3 + 14 * (i + 1)) (h1 : place ≤ pl) (h2 : pl ≤ place + 1 + 2 * ((i + 1 : Nat) : Int)) :
    FOne h₀ L s I it (LdJ ws S A place seed ts n rest m₀ (i + 1)) Q .next { s with heap := h', toks := tk' } :=
  FOne.of (nx := (S, stO A pl tq seed ts n) :: rest) F N (fun p hp => List.mem_cons_of_mem _ (List.mem_cons_of_mem _ hp)) (fun p hp => Nat.ne_of_lt (lt_of_all (l := (S, stO A pl tq seed ts n) :: rest) l p hp))
    ⟨T, tok, _, pl, tq, two_turn, rfl, hP, hT, h1, h2⟩
theorem lead_ok {i : Nat} {y : Str} (h : [Str.ofString "", Str.ofString ",", Str.ofString ", ,"][i]? = some y) : Commas y.cps.toList := by
  have hm := List.mem_of_getElem? h
  simp only [List.mem_cons, List.not_mem_nil, or_false] at hm
  rcases hm with rfl | rfl | rfl
  · exact Commas.nil
  · exact Commas.cons (b := []) (fun _ h => nomatch h) Commas.nil
  · exact Commas.cons (b := [32]) (by decide) (Commas.cons (b := []) (fun _ h => nomatch h) Commas.nil)
theorem len_app (a b : Str) : (a ++ b).length = a.length + b.length := Array.size_append ..
theorem len_comma : (Str.ofString ",").length = 1 := by decide +kernel
theorem len_none : (Str.ofString "").length = 0 := by decide +kernel
theorem cps_app (a b : Str) : (a ++ b).cps.toList = a.cps.toList ++ b.cps.toList := Array.toList_append ..
theorem blank_one {i : Nat} {y : Str} (h : [Str.ofString "", Str.ofString " ", Str.ofString "\t"][i]? = some y) : ∀ c ∈ y.cps.toList, isBlank c = true := by
  have hm := List.mem_of_getElem? h
  simp only [List.mem_cons, List.not_mem_nil, or_false] at hm
  rcases hm with rfl | rfl | rfl <;> decide +kernel
theorem blank_two {i : Nat} {y : Str} (h : [Str.ofString "", Str.ofString "  "][i]? = some y) : ∀ c ∈ y.cps.toList, isBlank c = true := by
  have hm := List.mem_of_getElem? h
  simp only [List.mem_cons, List.not_mem_nil, or_false] at hm
  rcases hm with rfl | rfl <;> decide +kernel
theorem trail_ok {i : Nat} {y : Str} (h : [Str.ofString ",", Str.ofString "", Str.ofString ",\t,"][i]? = some y) : Commas y.cps.toList := by
  have hm := List.mem_of_getElem? h
  simp only [List.mem_cons, List.not_mem_nil, or_false] at hm
  rcases hm with rfl | rfl | rfl
  · exact Commas.cons (b := []) (fun _ h => nomatch h) Commas.nil
  · exact Commas.nil
  · exact Commas.cons (b := [9]) (by decide) (Commas.cons (b := []) (fun _ h => nomatch h) Commas.nil)
theorem ld_more {ws : List Str} {i j k : Nat} {T y z b t : Str} (hP : LaidPre ws i T.cps.toList) (h0 : (0 : Int) < i) (hz : z = if decide ((0 : Int) < i) = true then b else Str.empty)
    (hb : [Str.ofString "", Str.ofString " ", Str.ofString "\t"][j]? = some b) (hy : ws[(i : Int).toNat]? = some y) (ht : [Str.ofString "", Str.ofString "  "][k]? = some t) : LaidPre ws (i + 1) (T ++ (Str.ofString "," ++ z ++ y ++ t)).cps.toList := by
  obtain ⟨i, rfl⟩ : ∃ k, i = k + 1 := ⟨i - 1, by omega⟩
  rw [if_pos (by simp)] at hz
  subst hz
  have e : (T ++ (Str.ofString "," ++ z ++ y ++ t)).cps.toList = T.cps.toList ++ (44 :: (z.cps.toList ++ (y.cps.toList ++ t.cps.toList))) := by
    simp only [cps_app, List.append_assoc]; rfl
  rw [e]
  exact hP.turn hy (blank_one hb) (blank_two ht)
theorem ld_first {ws : List Str} {i k : Nat} {T y z b t : Str} (hP : LaidPre ws i T.cps.toList) (h0 : ¬ (0 : Int) < i) (hz : z = if decide ((0 : Int) < i) = true then b else Str.empty)
    (hy : ws[(i : Int).toNat]? = some y) (ht : [Str.ofString "", Str.ofString "  "][k]? = some t) : LaidPre ws (i + 1) (T ++ (Str.ofString "" ++ z ++ y ++ t)).cps.toList := by
  obtain rfl : i = 0 := by omega
  rw [if_neg (by simp)] at hz
  subst hz
  have e : (T ++ (Str.ofString "" ++ Str.empty ++ y ++ t)).cps.toList = T.cps.toList ++ (y.cps.toList ++ t.cps.toList) := by
    simp only [cps_app, List.append_assoc]; rfl
  rw [e]
  exact hP.turn0 hy (blank_two ht)
section
local macro_rules | `(tactic| walk_at "pyIter ref") => `(tactic| refine Hold.out ?_)
local macro_rules | `(tactic| walk_at "subscriptTail") => `(tactic| (k_here; (with_reducible show wpAny _ _ (subscriptTail _ _ (Value.ref _) (Value.int _ _)) _ _ _); k_dflt (refine' sub_M ?N ?m ?yS ?y0 ?y1 ?y2 ?yB ?_ ?hs; (case N => k_asm); (case m => first | assumption | kcf_m); (case yS => assumption); (case y0 => first | assumption | omega); (case y1 => first | omega | (simp only [List.length_cons, List.length_nil]; omega)); (case y2 => first | omega | (simp only [List.length_cons, List.length_nil]; omega)); (case yB => assumption); (case hs => with_unfolding_all rfl); k_whole); intro y9 t9 e9 b9; (try k_sweep)))
local macro_rules | `(tactic| walk_at "subscriptTail") => `(tactic| (k_here; (with_reducible show wpAny _ _ (subscriptTail _ _ (Value.ref _) (Value.int _ _)) _ _ _); k_dflt (refine' sub_M3 ?N ?m ?yS ?y0 ?y1 ?y2 ?yB ?_ ?hs; (case N => k_asm); (case m => first | assumption | kcf_m); (case yS => (repeat (first | exact PyProof.Rows.StrsAre.nil | apply PyProof.Rows.StrsAre.cons))); (case y0 => first | assumption | omega); (case y1 => first | omega | (simp only [List.length_cons, List.length_nil]; omega)); (case y2 => first | omega | (simp only [List.length_cons, List.length_nil]; omega)); (case yB => decide +kernel); (case hs => with_unfolding_all rfl); k_whole); intro y9 t9 e9 b9; (try k_sweep)))
local macro_rules | `(tactic| k_updF) => `(tactic| (refine' UpdF.head ?a; (case a => assumption)))
local macro_rules | `(tactic| walk_at "binaryOp Mult str int") => `(tactic| (k_here; refine mul_if (by omega) ?_; intro z9 t9 k9 zE9 zL9))
local macro_rules | `(tactic| walk_at "call builtin:len") => `(tactic| (k_here; (with_reducible show wpAny _ _ (call (Value.builtin "len") [Value.ref _]) _ _ _); k_dflt (refine' len_S ?N ?m ?yS ?hl ?_; (case N => k_asm); (case m => first | assumption | kcf_m); (case yS => assumption); (case hl => first | assumption | omega); k_whole); intro t9 tk9))
theorem c_laid0 {prog : Program} {w : World} {p : Program} {loose : List Str} {mean : ExcName → Option Value} {mg mb : Str → Option Value}
  {S A W : Addr} {place seed : Int} {tp ts : Tok} {n nW : Nat} {vs ww : List Value} {ns : List Int} {ws : List Str} {na : Nat} {rest : List (Addr × Obj)}
  (hp : 0 ≤ place) (hp2 : place ≤ 90000) (hs : 0 ≤ seed) (hs2 : seed ≤ 1000) (hA : (A, listOf vs.toArray na) ∈ rest) (hW : (W, listOf ww.toArray nW) ∈ rest) (hne : ∀ p ∈ rest, p.1 ≠ S) (hi : IntsAre vs ns) (hl : ns.length ≤ 1000)
  (hws : SA ww ws) (h0 : 0 < ws.length) (h4 : ws.length ≤ 4) (h7 : ∀ y ∈ ws, y.length ≤ 7) :
  Cx prog w p loose mean mg mb 4 [.ref S, .ref W] 280 fun h₀ L m news s Q E =>
   news = (S, stO A place tp seed ts n) :: rest ∧
   (∀ (x : Str) (t tp' : Tok) (place' : Int) (h' : Heap) (tk' : Nat), Laid ws x → x.length ≤ 100 → place ≤ place' → place' ≤ place + 20 → Fr h₀ L h' m → News h₀ L h' ((S, stO A place' tp' seed ts n) :: rest) → Q (.str x t) { s with heap := h', toks := tk' }) := by
  rintro dp un gd cn cs a ccd cl outer A₀ base h₀ L m news s Q E B F X N T hk hd hu ⟨rfl, hret⟩
  have hAS : A ≠ S := hne _ hA
  refine wpAny_call ?_
  (k_dflt cell_enter)
  k_steps
  rename Fr _ _ _ _ => kF
  rename News _ _ _ _ => kN
  rename IsRange _ _ _ _ _ _ _ _ => kR
  rename (([_, _, _] : List Str)[_]? = some _) => eL
  refine Hold.mk (ld_loop (tq := _) rfl kR h4 kF (fun p hp => kN p (List.mem_cons_of_mem _ hp)) rfl (lead_ok eL) (by assumption) ?_ ?_)
  · intro i t I it m₁ nx h tk hi hJ lI F1 N1
    obtain ⟨T, tok, kv, pl, tq, rfl, rfl, hP, hT, p1, p2⟩ := hJ
    k_lt lI
    have lI2 := lI
    k_steps
    · rename Fr _ _ _ _ => kF2
      rename News _ _ _ _ => kN2
      rename (0 : Int) < _ => hp0
      rename ([_, _, _][_]? = some _) => hb
      rename ([_, _][_]? = some _) => ht
      rename (ws[_]? = some _) => hy
      rename (_ = if _ = true then _ else _) => hz
      refine ld_turn kF2 kN2 lI2 (ld_more hP hp0 hz hb hy ht) ?_ (by omega) (by omega)
      simp only [len_app, len_comma]; omega
    · rename Fr _ _ _ _ => kF2
      rename News _ _ _ _ => kN2
      rename (¬ (0 : Int) < _) => hp0
      rename ([_, _][_]? = some _) => ht
      rename (ws[_]? = some _) => hy
      rename (_ = if _ = true then _ else _) => hz
      refine ld_turn kF2 kN2 lI2 (ld_first hP hp0 hz hy ht) ?_ (by omega) (by omega)
      simp only [len_app, len_none]; omega
  · intro m₁ nx h tk hJ F1 N1
    obtain ⟨T, tok, kv, pl, tq, rfl, rfl, hP, hT, p1, p2⟩ := hJ
    k_steps
    rename Fr h₀ _ _ _ => kF2
    rename News h₀ _ _ _ => kN2
    rename ([_, _, _][_]? = some _) => ht
    exact hret _ _ _ _ _ _ (hP.done h0 (trail_ok ht) (cps_app ..)) (by rw [len_app]; omega) (by omega) (by omega) kF2 (fun p hp => kN2 p (List.mem_cons_of_mem _ hp))
end
theorem c_laid {prog : Program} {w : World} {p : Program} {loose : List Str} {mean : ExcName → Option Value} {mg mb : Str → Option Value}
  {S A W : Addr} {place seed : Int} {tp ts : Tok} {n nW : Nat} {vs ww : List Value} {ns : List Int} {ws : List Str} {na : Nat} {nw : List (Addr × Obj)} {g : Obj → List (Addr × Obj)}
  (hp : 0 ≤ place) (hp2 : place ≤ 90000) (hs : 0 ≤ seed) (hs2 : seed ≤ 1000) (U : UpdF S (stO A place tp seed ts n) nw g) (hA : (A, listOf vs.toArray na) ∈ nw) (hne : A ≠ S) (hi : IntsAre vs ns) (hl : ns.length ≤ 1000)
  (hW : (W, listOf ww.toArray nW) ∈ nw) (hWS : W ≠ S) (hws : SA ww ws) (h0 : 0 < ws.length) (h4 : ws.length ≤ 4) (h7 : ∀ y ∈ ws, y.length ≤ 7) :
  Cx prog w p loose mean mg mb 4 [.ref S, .ref W] 280 fun h₀ L m news s Q E =>
   news = nw ∧
   (∀ (x : Str) (t tp' : Tok) (place' : Int) (h' : Heap) (tk' : Nat), Laid ws x → x.length ≤ 100 → place ≤ place' → place' ≤ place + 20 → Fr h₀ L h' m → News h₀ L h' (g (stO A place' tp' seed ts n)) → Q (.str x t) { s with heap := h', toks := tk' }) := by
  rintro dp un gd cn cs a ccd cl outer A₀ base h₀ L m news s Q E B F X N T hk hd hu ⟨rfl, hret⟩
  obtain ⟨rest, r1, r2, r3, r4⟩ := upd_front U
  exact Cx.use (c_laid0 hp hp2 hs hs2 (r4 _ hA hne) (r4 _ hW hWS) r3 hi hl hws h0 h4 h7) B F X (fun p hp => N p (r1 p hp)) T hk hd hu ⟨rfl, fun x t tp' place' h' tk' hw hx h1 h2 F' N' => hret x t tp' place' h' tk' hw hx h1 h2 F' (fun p hp => N' p (r2 _ p hp))⟩
theorem join_L {prog : Program} {w : World} {A : Around} {E : Value → Shared → Prop} {s : Shared} {h₀ : Heap} {L D : Addr} {news : List (Addr × Obj)} {B n : Nat} {sep : Str} {vs : List Value} {ws : List Str} {t : Tok} {Q : Value → Shared → Prop} (N : News h₀ L s.heap news) (hm : (D, listOf vs.toArray n) ∈ news) (hs : SA vs ws) (hB : ∀ y ∈ ws, y.length ≤ B) (hn : ws.length ≤ 1000) (hsep : B + sep.length ≤ 16)
    (h : ∀ t' tk, Q (.str (Txt.join sep ws) t') { s with toks := tk }) : wpAny (model prog w) A (call (.builtin "str.join") [.str sep t, .ref D]) Q E s := by
  have e : ws.map (id : Str → Str) = ws := List.map_id _
  refine join_madeW (g := (id : Str → Str)) (l := ws) (items := vs.toArray) B (PySem.IsL.isList (n := n) (N _ hm).1) ?_ hB (by omega) hsep (fun t' tk => ?_)
  · rw [e]; exact hs.carried
  · rw [e]; exact h t' tk
theorem c_bsub {prog : Program} {w : World} {p : Program} {loose : List Str} {mean : ExcName → Option Value} {mg mb : Str → Option Value}
  {W : Addr} {nW : Nat} {ww : List Value} {ws : List Str} {nw : List (Addr × Obj)} (hW : (W, listOf ww.toArray nW) ∈ nw) (hws : SA ww ws) (h4 : ws.length ≤ 4) (h7 : ∀ y ∈ ws, y.length ≤ 7) :
  Cx prog w p loose mean mg mb 2 [.ref W] 179 fun h₀ L m news s Q E =>
   news = nw ∧ (∀ (t : Tok) (h' : Heap) (tk' : Nat), Fr h₀ L h' m → News h₀ L h' nw → Q (.str (Txt.join (Str.ofString ", ") ws) t) { s with heap := h', toks := tk' }) := by
  rintro dp un gd cn cs a ccd cl outer A₀ base h₀ L m news s Q E B F X N T hk hd hu ⟨rfl, hret⟩
  refine wpAny_call ?_
  (k_dflt cell_enter)
  k_steps
  rename Fr _ _ _ _ => kF
  rename News _ _ _ _ => kN
  refine join_L (B := 7) kN hW hws h7 (by omega) (by decide +kernel) (fun t' tk => ?_)
  k_steps
  rename Fr h₀ _ _ _ => kF2
  rename News h₀ _ _ _ => kN2
  exact hret _ _ _ kF2 kN2
end
local macro_rules | `(tactic| walk_at "call ref") => `(tactic| (k_here; (with_reducible show wpAny _ _ (call (Value.ref 280) [Value.ref _, Value.ref _]) _ _ _); k_dflt (refine' Cx.use (c_laid ?y3 ?y4 ?y5 ?y6 ?yU ?yA ?yn ?yi ?yl ?yW ?ym ?yS ?z0 ?z4 ?z7) ?B ?F ?X ?N ?T ?hk ?hd ?hu (And.intro rfl ?_); (case N => k_asm); (case yU => first | assumption | k_updF); (case yA => first | assumption | kcf_m); (case yn => first | assumption | k_ne); (case yi => assumption); (case yl => assumption); (case yW => first | assumption | kcf_m); (case ym => first | assumption | k_ne); (case yS => assumption); (case z0 => first | assumption | omega); (case z4 => first | assumption | omega); (case z7 => assumption); (case y3 => first | assumption | omega); (case y4 => first | assumption | omega); (case y5 => assumption); (case y6 => assumption); (case B => k_asm); (case F => k_asm); (case X => k_asm); (case T => k_asm); (case hk => first | exact rfl | assumption); (case hd => ktr_room); (case hu => ktr_units)); refine (fun x9 t9 tp9 pl9 h9 tk9 w9 wl9 p1 p2 F9 N9 => ?_); (try dsimp only at N9); (try k_sweep); (try dsimp only)))
local macro_rules | `(tactic| walk_at "call ref") => `(tactic| (k_here; (with_reducible show wpAny _ _ (call (Value.ref 179) [Value.ref _]) _ _ _); k_dflt (refine' Cx.use (c_bsub ?yW ?yS ?z4 ?z7) ?B ?F ?X ?N ?T ?hk ?hd ?hu (And.intro rfl ?_); (case N => k_asm); (case yW => first | assumption | kcf_m); (case yS => assumption); (case z4 => first | assumption | omega); (case z7 => assumption); (case B => k_asm); (case F => k_asm); (case X => k_asm); (case T => k_asm); (case hk => first | exact rfl | assumption); (case hd => ktr_room); (case hu => ktr_units)); refine (fun t9 h9 tk9 F9 N9 => ?_); (try k_sweep); (try dsimp only)))
local macro_rules | `(tactic| walk_at "no such step") => `(tactic| fail "none")
theorem fresh30 : True := by
  w_top off
  trivial
section
def getFn {q : Program} {loose : List Str} {XP : (Str → Option Value) → Heap → Prop} {YP : World → Heap → Prop} {r : RowW} {d : DefRec} {kwd : List (Str × Expr)} {run : Value → List Value → Sem Value} {C : Prop} (_ : WalkO q loose XP YP r d kwd run → C) : DefRec := d
/-- the law's own def, read off the head -/
def lawFn : DefRec := getFn hd
abbrev lawEnv (L fa : Addr) (cd : Value) : Env := envOfC lawFn.name lawFn.scope L fa cd
theorem StrsAre.list {its : Array Value} {ws : List Str} (h : StrsAre its ws) : SA its.toList ws := by
  obtain ⟨l⟩ := its
  have h' : l.map strV = ws.map some := h
  clear h
  induction l generalizing ws with
  | nil => cases ws with
    | nil => exact .nil
    | cons => cases h'
  | cons v l ih =>
    cases ws with
    | nil => cases h'
    | cons y ws =>
      simp only [List.map_cons, List.cons.injEq] at h'
      obtain ⟨h1, h2⟩ := h'
      cases v <;> simp [strV] at h1
      subst h1
      exact .cons _ _ (ih h2)
theorem c_lconn_ok {prog : Program} {w : World} {p : Program} {loose : List Str} {mean : ExcName → Option Value} {mg mb : Str → Option Value}
  (hpp : ProgOk prog) {x : Str} {tx : Tok} {ws : List Str} (hx : x.length ≤ 1000) (hr : readR (wEnd x) x = .ok ws) :
  CxT prog w p loose mean mg mb 8 [.str x tx] 240 fun h₀ L m news s Q E =>
   (∀ (lA : Addr) (vs : List Value) (n : Nat) (h' : Heap) (tk' : Nat), SA vs ws → Fr h₀ L h' m → News h₀ L h' ((lA, listOf vs.toArray n) :: news) → (∀ p ∈ news, p.1 < lA) → Q (.ref lA) { s with heap := h', toks := tk' }) := by
  intro dp un gd cn cs a ccd cl A₀ h₀ L m news s Q E B F X N T hk hd hu hret
  refine c_lconn hpp x tx hx dp un gd cn cs a ccd cl A₀ h₀ L m news s Q E B F X N T hk hd hu ⟨fun lA its n ws' h' tk' hok hS F' N' l => ?_, fun k t h' tk' he F' N' => ?_⟩
  · cases hr.symm.trans hok
    exact hret lA its.toList n h' tk' hS.list F' (by rw [Array.toArray_toList]; exact N') l
  · cases hr.symm.trans he
theorem c_lconn_err {prog : Program} {w : World} {p : Program} {loose : List Str} {mean : ExcName → Option Value} {mg mb : Str → Option Value}
  (hpp : ProgOk prog) {x : Str} {tx : Tok} {k : Nat} (hx : x.length ≤ 1000) (hr : readR (wEnd x) x = .error k) :
  CxT prog w p loose mean mg mb 8 [.str x tx] 240 fun h₀ L m news s Q E =>
   (∀ (t : Tok) (h' : Heap) (tk' : Nat), Fr h₀ L h' m → News h₀ L h' news → Q (.int k t) { s with heap := h', toks := tk' }) := by
  intro dp un gd cn cs a ccd cl A₀ h₀ L m news s Q E B F X N T hk hd hu hret
  refine c_lconn hpp x tx hx dp un gd cn cs a ccd cl A₀ h₀ L m news s Q E B F X N T hk hd hu ⟨fun lA its n ws' h' tk' hok hS F' N' l => ?_, fun k t h' tk' he F' N' => ?_⟩
  · cases hr.symm.trans hok
  · cases hr.symm.trans he
    exact hret t h' tk' F' N'
theorem c_lupg_ok {prog : Program} {w : World} {p : Program} {loose : List Str} {mean : ExcName → Option Value} {mg mb : Str → Option Value}
  (hpp : ProgOk prog) {x : Str} {tx : Tok} {ws : List Str} (hx : x.length ≤ 1000) (hr : readR (uEnd x) x = .ok ws) :
  CxT prog w p loose mean mg mb 8 [.str x tx] 247 fun h₀ L m news s Q E =>
   (∀ (lA : Addr) (vs : List Value) (n : Nat) (h' : Heap) (tk' : Nat), SA vs ws → Fr h₀ L h' m → News h₀ L h' ((lA, listOf vs.toArray n) :: news) → (∀ p ∈ news, p.1 < lA) → Q (.ref lA) { s with heap := h', toks := tk' }) := by
  intro dp un gd cn cs a ccd cl A₀ h₀ L m news s Q E B F X N T hk hd hu hret
  refine c_lupg hpp x tx hx dp un gd cn cs a ccd cl A₀ h₀ L m news s Q E B F X N T hk hd hu ⟨fun lA its n ws' h' tk' hok hS F' N' l => ?_, fun k t h' tk' he F' N' => ?_⟩
  · cases hr.symm.trans hok
    exact hret lA its.toList n h' tk' hS.list F' (by rw [Array.toArray_toList]; exact N') l
  · cases hr.symm.trans he
theorem c_lupg_err {prog : Program} {w : World} {p : Program} {loose : List Str} {mean : ExcName → Option Value} {mg mb : Str → Option Value}
  (hpp : ProgOk prog) {x : Str} {tx : Tok} {k : Nat} (hx : x.length ≤ 1000) (hr : readR (uEnd x) x = .error k) :
  CxT prog w p loose mean mg mb 8 [.str x tx] 247 fun h₀ L m news s Q E =>
   (∀ (t : Tok) (h' : Heap) (tk' : Nat), Fr h₀ L h' m → News h₀ L h' news → Q (.int k t) { s with heap := h', toks := tk' }) := by
  intro dp un gd cn cs a ccd cl A₀ h₀ L m news s Q E B F X N T hk hd hu hret
  refine c_lupg hpp x tx hx dp un gd cn cs a ccd cl A₀ h₀ L m news s Q E B F X N T hk hd hu ⟨fun lA its n ws' h' tk' hok hS F' N' l => ?_, fun k t h' tk' he F' N' => ?_⟩
  · cases hr.symm.trans hok
  · cases hr.symm.trans he
    exact hret t h' tk' F' N'
theorem c_lsub_ok {prog : Program} {w : World} {p : Program} {loose : List Str} {mean : ExcName → Option Value} {mg mb : Str → Option Value}
  (hpp : ProgOk prog) {x : Str} {tx : Tok} {ws : List Str} (hx : x.length ≤ 1000) (hr : readR (wEnd x) x = .ok ws) :
  CxT prog w p loose mean mg mb 8 [.str x tx] 254 fun h₀ L m news s Q E =>
   (∀ (lA : Addr) (vs : List Value) (n : Nat) (h' : Heap) (tk' : Nat), SA vs ws → Fr h₀ L h' m → News h₀ L h' ((lA, listOf vs.toArray n) :: news) → (∀ p ∈ news, p.1 < lA) → Q (.ref lA) { s with heap := h', toks := tk' }) := by
  intro dp un gd cn cs a ccd cl A₀ h₀ L m news s Q E B F X N T hk hd hu hret
  refine c_lsub hpp x tx hx dp un gd cn cs a ccd cl A₀ h₀ L m news s Q E B F X N T hk hd hu ⟨fun lA its n ws' h' tk' hok hS F' N' l => ?_, fun k t h' tk' he F' N' => ?_⟩
  · cases hr.symm.trans hok
    exact hret lA its.toList n h' tk' hS.list F' (by rw [Array.toArray_toList]; exact N') l
  · cases hr.symm.trans he
theorem c_lsub_err {prog : Program} {w : World} {p : Program} {loose : List Str} {mean : ExcName → Option Value} {mg mb : Str → Option Value}
  (hpp : ProgOk prog) {x : Str} {tx : Tok} {k : Nat} (hx : x.length ≤ 1000) (hr : readR (wEnd x) x = .error k) :
  CxT prog w p loose mean mg mb 8 [.str x tx] 254 fun h₀ L m news s Q E =>
   (∀ (t : Tok) (h' : Heap) (tk' : Nat), Fr h₀ L h' m → News h₀ L h' news → Q (.int k t) { s with heap := h', toks := tk' }) := by
  intro dp un gd cn cs a ccd cl A₀ h₀ L m news s Q E B F X N T hk hd hu hret
  refine c_lsub hpp x tx hx dp un gd cn cs a ccd cl A₀ h₀ L m news s Q E B F X N T hk hd hu ⟨fun lA its n ws' h' tk' hok hS F' N' l => ?_, fun k t h' tk' he F' N' => ?_⟩
  · cases hr.symm.trans hok
  · cases hr.symm.trans he
    exact hret t h' tk' F' N'
end
local macro_rules | `(tactic| walk_at "call ref") => `(tactic| (k_here; (with_reducible show wpAny _ _ (call (Value.ref 240) [_]) _ _ _); k_dflt (refine' CxT.use (c_lconn_ok ?pp ?g ?r) ?B ?F ?X ?N ?T ?hk ?hd ?hu ?_; (case N => k_asm); (case pp => assumption); (case g => first | assumption | omega); (case r => assumption); (case B => k_asm); (case F => k_asm); (case X => k_asm); (case T => k_asm); (case hk => first | exact rfl | assumption); (case hd => ktr_room); (case hu => ktr_units)); refine (fun lA9 vs9 n9 h9 tk9 S9 F9 N9 l9 => ?_); (try k_lt l9); (try k_sweep); (try dsimp only)))
local macro_rules | `(tactic| walk_at "call ref") => `(tactic| (k_here; (with_reducible show wpAny _ _ (call (Value.ref 240) [_]) _ _ _); k_dflt (refine' CxT.use (c_lconn_err ?pp ?g ?r) ?B ?F ?X ?N ?T ?hk ?hd ?hu ?_; (case N => k_asm); (case pp => assumption); (case g => first | assumption | omega); (case r => assumption); (case B => k_asm); (case F => k_asm); (case X => k_asm); (case T => k_asm); (case hk => first | exact rfl | assumption); (case hd => ktr_room); (case hu => ktr_units)); refine (fun t9 h9 tk9 F9 N9 => ?_); (try k_sweep); (try dsimp only)))
local macro_rules | `(tactic| walk_at "call ref") => `(tactic| (k_here; (with_reducible show wpAny _ _ (call (Value.ref 247) [_]) _ _ _); k_dflt (refine' CxT.use (c_lupg_ok ?pp ?g ?r) ?B ?F ?X ?N ?T ?hk ?hd ?hu ?_; (case N => k_asm); (case pp => assumption); (case g => first | assumption | omega); (case r => assumption); (case B => k_asm); (case F => k_asm); (case X => k_asm); (case T => k_asm); (case hk => first | exact rfl | assumption); (case hd => ktr_room); (case hu => ktr_units)); refine (fun lA9 vs9 n9 h9 tk9 S9 F9 N9 l9 => ?_); (try k_lt l9); (try k_sweep); (try dsimp only)))
local macro_rules | `(tactic| walk_at "call ref") => `(tactic| (k_here; (with_reducible show wpAny _ _ (call (Value.ref 247) [_]) _ _ _); k_dflt (refine' CxT.use (c_lupg_err ?pp ?g ?r) ?B ?F ?X ?N ?T ?hk ?hd ?hu ?_; (case N => k_asm); (case pp => assumption); (case g => first | assumption | omega); (case r => assumption); (case B => k_asm); (case F => k_asm); (case X => k_asm); (case T => k_asm); (case hk => first | exact rfl | assumption); (case hd => ktr_room); (case hu => ktr_units)); refine (fun t9 h9 tk9 F9 N9 => ?_); (try k_sweep); (try dsimp only)))
local macro_rules | `(tactic| walk_at "call ref") => `(tactic| (k_here; (with_reducible show wpAny _ _ (call (Value.ref 254) [_]) _ _ _); k_dflt (refine' CxT.use (c_lsub_ok ?pp ?g ?r) ?B ?F ?X ?N ?T ?hk ?hd ?hu ?_; (case N => k_asm); (case pp => assumption); (case g => first | assumption | omega); (case r => assumption); (case B => k_asm); (case F => k_asm); (case X => k_asm); (case T => k_asm); (case hk => first | exact rfl | assumption); (case hd => ktr_room); (case hu => ktr_units)); refine (fun lA9 vs9 n9 h9 tk9 S9 F9 N9 l9 => ?_); (try k_lt l9); (try k_sweep); (try dsimp only)))
local macro_rules | `(tactic| walk_at "call ref") => `(tactic| (k_here; (with_reducible show wpAny _ _ (call (Value.ref 254) [_]) _ _ _); k_dflt (refine' CxT.use (c_lsub_err ?pp ?g ?r) ?B ?F ?X ?N ?T ?hk ?hd ?hu ?_; (case N => k_asm); (case pp => assumption); (case g => first | assumption | omega); (case r => assumption); (case B => k_asm); (case F => k_asm); (case X => k_asm); (case T => k_asm); (case hk => first | exact rfl | assumption); (case hd => ktr_room); (case hu => ktr_units)); refine (fun t9 h9 tk9 F9 N9 => ?_); (try k_sweep); (try dsimp only)))
theorem fresh31 : True := by
  w_top off
  trivial
section
def isErr (k : Nat) : Except Nat (List Str) → Bool
  | .error j => j == k
  | .ok _ => false
theorem of_isErr {k : Nat} : ∀ {r : Except Nat (List Str)}, isErr k r = true → r = .error k
  | .error j, h => by have h' : (j == k) = true := h
                      rw [eq_of_beq h']
  | .ok _, h => by cases h
theorem ret_a : readR (uEnd (Str.ofString "a/")) (Str.ofString "a/") = .error 1 := of_isErr (by decide +kernel)
theorem ret_b : readR (uEnd (Str.ofString "a/b/c")) (Str.ofString "a/b/c") = .error 3 := of_isErr (by decide +kernel)
theorem seg14 {prog : Program} {w : World} {p : Program} {loose : List Str} {mean : ExcName → Option Value} {mg mb : Str → Option Value} (hpp : ProgOk prog)
  {fa L : Addr} {cd : Value} {h₀ : Heap} {m : Str → Option Value} {news : List (Addr × Obj)} {s : Shared} {Q : Flow → Shared → Prop} {E : Value → Shared → Prop}
  (B : Below callerA h₀ [] h₀) (F : Fr h₀ L s.heap m) (X : (hd.heap_39 w.params).In h₀) (N : News h₀ L s.heap news) (T : Top p loose mean mg mb h₀)
  (hret : ∀ (h' : Heap) (tk' : Nat), Fr h₀ L h' m → News h₀ L h' news → Q (.ret (.bool true)) { s with heap := h', toks := tk' }) :
  wpAny (model prog w) (callerA.deeper (lawEnv L fa cd)) (execs (lawFn.body.drop 14) (lawEnv L fa cd)) Q E s := by
  unfold lawEnv lawFn getFn
  dsimp only [List.drop]
  have hl1 : (Str.ofString "a/").length ≤ 1000 := by decide +kernel
  have hl2 : (Str.ofString "a/b/c").length ≤ 1000 := by decide +kernel
  have r1 := ret_a
  have r2 := ret_b
  k_steps
  rename Fr _ _ _ _ => kF
  rename News _ _ _ _ => kN
  exact hret _ _ kF kN
end
theorem fresh32 : True := by
  w_top off
  trivial
section
/-- strs that Python has -/
def Small (x : Str) : Prop := ∀ c ∈ x.cps.toList, c < 0x110000
theorem small_ok {x : Str} (h : Small x) : PyData.strOk x = true := by
  unfold PyData.strOk
  rw [← Array.all_toList, List.all_eq_true]
  intro c hc
  exact decide_eq_true (h c hc)
theorem canLay_strs : ∀ {ws : List Str}, (∀ y ∈ ws, Small y) → PyData.canLayAll0 (ws.map PyData.str) = true
  | [], _ => rfl
  | y :: r, h => by
    simp only [List.map_cons, PyData.canLayAll0, PyData.canLay0, small_ok (h y (List.mem_cons_self ..)), canLay_strs fun z hz => h z (List.mem_cons_of_mem _ hz), Bool.and_self]
theorem depth_strs : ∀ ws : List Str, PyData.depthAll (ws.map PyData.str) = 0
  | [] => rfl
  | _ :: r => by simp [PyData.depthAll, PyData.depth, depth_strs r]
theorem shaped_strs {ws : List Str} (h : ∀ y ∈ ws, Small y) : SeqAt.shaped (.list (ws.map PyData.str)) = true := by
  simp [SeqAt.shaped, PyData.canLay0, PyData.depth, canLay_strs h, depth_strs]
theorem eqv_strs : ∀ ws : List Str, PyData.eqvAll (ws.map PyData.str) (ws.map PyData.str) = true
  | [] => rfl
  | y :: r => by simp [PyData.eqvAll, PyData.eqv, eqv_strs r]
section
variable {prog : Program} {w : World} {A : Around} {E : Value → Shared → Prop} {s : Shared} {h₀ : Heap} {L a b : Addr} {news : List (Addr × Obj)} {n n' : Nat}
theorem ne_strs {xs ys : List Value} {ws : List Str} {Q : Value → Shared → Prop} (N : News h₀ L s.heap news) (ha : (a, listOf xs.toArray n) ∈ news) (hb : (b, listOf ys.toArray n') ∈ news) (hx : SA xs ws) (hy : SA ys ws) (hw : ∀ y ∈ ws, Small y) (hu : A.units + 64 < cLine) (h : Q (.bool false) s) :
    wpAny (model prog w) A (compareOp .NotEq (.ref a) (.ref b)) Q E s := by
  refine PyProof.Rows.ne_dataH (reads_newData (PySem.IsL.isList (n := n) (N _ ha).1) hx.carried) (reads_newData (PySem.IsL.isList (n := n') (N _ hb).1) hy.carried) (shaped_strs hw) (shaped_strs hw) hu ?_
  have e : (!PyData.eqv (.list (ws.map PyData.str)) (.list (ws.map PyData.str))) = false := by simp [PyData.eqv, eqv_strs]
  rw [e]; exact h
end
theorem rd_small {wend : Nat → Nat} {x : Str} (hx : Small x) : ∀ (n i : Nat) (acc ws : List Str), (∀ y ∈ acc, Small y) → rdF wend x n i acc = .ok ws → ∀ y ∈ ws, Small y := by
  have ex : ∀ p q, Small ⟨x.cps.extract p q⟩ := fun p q c hc => by
    refine hx c ?_
    have hc' : c ∈ (x.cps.extract p q).toList := hc
    rw [Array.toList_extract, List.extract_eq_take_drop] at hc'
    exact List.mem_of_mem_drop (List.mem_of_mem_take hc')
  intro n
  induction n with
  | zero => intro i acc ws _ h; cases h
  | succ n ih =>
    intro i acc ws ha h
    have ha2 : ∀ y ∈ acc ++ [⟨x.cps.extract i (wend i)⟩], Small y := fun y hy => by
      rcases List.mem_append.mp hy with hy | hy
      · exact ha y hy
      · rw [List.mem_singleton.mp hy]; exact ex _ _
    unfold rdF at h
    split at h
    · cases h
    · split at h
      · cases h; exact ha2
      · split at h
        · split at h
          · cases h; exact ha2
          · exact ih _ _ _ ha2 h
        · cases h
theorem read_small {wend : Nat → Nat} {x : Str} {ws : List Str} (hx : Small x) (h : readR wend x = .ok ws) : ∀ y ∈ ws, Small y := rd_small hx _ _ [] _ (fun _ h => nomatch h) h
theorem c_read_f_ok {prog : Program} {w : World} {p : Program} {loose : List Str} {mean : ExcName → Option Value} {mg mb : Str → Option Value}
  {x : Str} {tx : Tok} {ws : List Str} (hx : x.length ≤ 19) (hr : readR (wEnd x) x = .ok ws) :
  Cx prog w p loose mean mg mb 4 [.str x tx, .bool false] 233 fun h₀ L m news s Q E =>
   (∀ (lA : Addr) (vs : List Value) (n : Nat) (h' : Heap) (tk' : Nat), SA vs ws → Fr h₀ L h' m → News h₀ L h' ((lA, listOf vs.toArray n) :: news) → (∀ p ∈ news, p.1 < lA) → Q (.ref lA) { s with heap := h', toks := tk' }) := by
  intro dp un gd cn cs a ccd cl outer A₀ base h₀ L m news s Q E B F X N T hk hd hu hret
  refine c_read_f x tx hx dp un gd cn cs a ccd cl outer A₀ base h₀ L m news s Q E B F X N T hk hd hu ⟨fun lA its n ws' h' tk' hok hS F' N' l => ?_, fun k t h' tk' he F' N' => ?_⟩
  · cases hr.symm.trans hok
    exact hret lA its.toList n h' tk' hS.list F' (by rw [Array.toArray_toList]; exact N') l
  · cases hr.symm.trans he
theorem c_read_f_err {prog : Program} {w : World} {p : Program} {loose : List Str} {mean : ExcName → Option Value} {mg mb : Str → Option Value}
  {x : Str} {tx : Tok} {k : Nat} (hx : x.length ≤ 19) (hr : readR (wEnd x) x = .error k) :
  Cx prog w p loose mean mg mb 4 [.str x tx, .bool false] 233 fun h₀ L m news s Q E =>
   (∀ (t : Tok) (h' : Heap) (tk' : Nat), Fr h₀ L h' m → News h₀ L h' news → Q (.int k t) { s with heap := h', toks := tk' }) := by
  intro dp un gd cn cs a ccd cl outer A₀ base h₀ L m news s Q E B F X N T hk hd hu hret
  refine c_read_f x tx hx dp un gd cn cs a ccd cl outer A₀ base h₀ L m news s Q E B F X N T hk hd hu ⟨fun lA its n ws' h' tk' hok hS F' N' l => ?_, fun k t h' tk' he F' N' => ?_⟩
  · cases hr.symm.trans hok
  · cases hr.symm.trans he
    exact hret t h' tk' F' N'
theorem c_read_t_ok {prog : Program} {w : World} {p : Program} {loose : List Str} {mean : ExcName → Option Value} {mg mb : Str → Option Value}
  {x : Str} {tx : Tok} {ws : List Str} (hx : x.length ≤ 19) (hr : readR (uEnd x) x = .ok ws) :
  Cx prog w p loose mean mg mb 4 [.str x tx, .bool true] 233 fun h₀ L m news s Q E =>
   (∀ (lA : Addr) (vs : List Value) (n : Nat) (h' : Heap) (tk' : Nat), SA vs ws → Fr h₀ L h' m → News h₀ L h' ((lA, listOf vs.toArray n) :: news) → (∀ p ∈ news, p.1 < lA) → Q (.ref lA) { s with heap := h', toks := tk' }) := by
  intro dp un gd cn cs a ccd cl outer A₀ base h₀ L m news s Q E B F X N T hk hd hu hret
  refine c_read_t x tx hx dp un gd cn cs a ccd cl outer A₀ base h₀ L m news s Q E B F X N T hk hd hu ⟨fun lA its n ws' h' tk' hok hS F' N' l => ?_, fun k t h' tk' he F' N' => ?_⟩
  · cases hr.symm.trans hok
    exact hret lA its.toList n h' tk' hS.list F' (by rw [Array.toArray_toList]; exact N') l
  · cases hr.symm.trans he
theorem c_read_t_err {prog : Program} {w : World} {p : Program} {loose : List Str} {mean : ExcName → Option Value} {mg mb : Str → Option Value}
  {x : Str} {tx : Tok} {k : Nat} (hx : x.length ≤ 19) (hr : readR (uEnd x) x = .error k) :
  Cx prog w p loose mean mg mb 4 [.str x tx, .bool true] 233 fun h₀ L m news s Q E =>
   (∀ (t : Tok) (h' : Heap) (tk' : Nat), Fr h₀ L h' m → News h₀ L h' news → Q (.int k t) { s with heap := h', toks := tk' }) := by
  intro dp un gd cn cs a ccd cl outer A₀ base h₀ L m news s Q E B F X N T hk hd hu hret
  refine c_read_t x tx hx dp un gd cn cs a ccd cl outer A₀ base h₀ L m news s Q E B F X N T hk hd hu ⟨fun lA its n ws' h' tk' hok hS F' N' l => ?_, fun k t h' tk' he F' N' => ?_⟩
  · cases hr.symm.trans hok
  · cases hr.symm.trans he
    exact hret t h' tk' F' N'
end
local macro_rules | `(tactic| walk_at "call ref") => `(tactic| (k_here; (with_reducible show wpAny _ _ (call (Value.ref 233) [_, Value.bool false]) _ _ _); k_dflt (refine' Cx.use (c_read_f_ok ?g ?r) ?B ?F ?X ?N ?T ?hk ?hd ?hu ?_; (case N => k_asm); (case g => first | assumption | omega); (case r => assumption); (case B => k_asm); (case F => k_asm); (case X => k_asm); (case T => k_asm); (case hk => first | exact rfl | assumption); (case hd => ktr_room); (case hu => ktr_units)); refine (fun lA9 vs9 n9 h9 tk9 S9 F9 N9 l9 => ?_); (try k_lt l9); (try k_sweep); (try dsimp only)))
local macro_rules | `(tactic| walk_at "call ref") => `(tactic| (k_here; (with_reducible show wpAny _ _ (call (Value.ref 233) [_, Value.bool false]) _ _ _); k_dflt (refine' Cx.use (c_read_f_err ?g ?r) ?B ?F ?X ?N ?T ?hk ?hd ?hu ?_; (case N => k_asm); (case g => first | assumption | omega); (case r => assumption); (case B => k_asm); (case F => k_asm); (case X => k_asm); (case T => k_asm); (case hk => first | exact rfl | assumption); (case hd => ktr_room); (case hu => ktr_units)); refine (fun t9 h9 tk9 F9 N9 => ?_); (try k_sweep); (try dsimp only)))
local macro_rules | `(tactic| walk_at "call ref") => `(tactic| (k_here; (with_reducible show wpAny _ _ (call (Value.ref 233) [_, Value.bool true]) _ _ _); k_dflt (refine' Cx.use (c_read_t_ok ?g ?r) ?B ?F ?X ?N ?T ?hk ?hd ?hu ?_; (case N => k_asm); (case g => first | assumption | omega); (case r => assumption); (case B => k_asm); (case F => k_asm); (case X => k_asm); (case T => k_asm); (case hk => first | exact rfl | assumption); (case hd => ktr_room); (case hu => ktr_units)); refine (fun lA9 vs9 n9 h9 tk9 S9 F9 N9 l9 => ?_); (try k_lt l9); (try k_sweep); (try dsimp only)))
local macro_rules | `(tactic| walk_at "call ref") => `(tactic| (k_here; (with_reducible show wpAny _ _ (call (Value.ref 233) [_, Value.bool true]) _ _ _); k_dflt (refine' Cx.use (c_read_t_err ?g ?r) ?B ?F ?X ?N ?T ?hk ?hd ?hu ?_; (case N => k_asm); (case g => first | assumption | omega); (case r => assumption); (case B => k_asm); (case F => k_asm); (case X => k_asm); (case T => k_asm); (case hk => first | exact rfl | assumption); (case hd => ktr_room); (case hu => ktr_units)); refine (fun t9 h9 tk9 F9 N9 => ?_); (try k_sweep); (try dsimp only)))
local macro_rules | `(tactic| walk_at "compareOp NotEq ref ref") => `(tactic| (k_here; k_dflt (refine' ne_strs ?N ?a ?b ?x ?y ?w ?u ?_; (case N => k_asm); (case a => first | assumption | kcf_m); (case b => first | assumption | kcf_m); (case x => assumption); (case y => assumption); (case w => assumption); (case u => ke_room); k_whole)))
theorem fresh33 : True := by
  w_top off
  trivial
section
/-- a sign of a drawn text -/
def DrawOk (y : Str) : Prop := y.length = 1 ∧ ∀ c ∈ y.cps.toList, c < 1000
theorem drawn_sign {r : Int} (h0 : 0 ≤ r) (h1 : r < 8) : DrawOk (Txt.item (Str.ofString "aB/,= \t-") r) := by
  obtain ⟨j, rfl⟩ := Int.eq_ofNat_of_zero_le h0
  have hl : (Str.ofString "aB/,= \t-").length = 8 := by decide +kernel
  rw [item_nat (by rw [hl]; omega)]
  refine ⟨rfl, fun c hc => ?_⟩
  have key : ∀ j, j < 8 → (Str.ofString "aB/,= \t-").cps.getD j 0 < 1000 := by decide +kernel
  have hc' : c = (Str.ofString "aB/,= \t-").cps.getD j 0 := by simpa using hc
  rw [hc']
  exact key j (by omega)
theorem drawn_join {ws : List Str} (h : ∀ y ∈ ws, DrawOk y) : (Txt.join (Str.ofString "") ws).length = ws.length ∧ Small (Txt.join (Str.ofString "") ws) := by
  have e : (Txt.join (Str.ofString "") ws).cps.toList = ws.flatMap (·.cps.toList) := join_flat ws
  have el : ((ws.flatMap (·.cps.toList))).length = ws.length := by
    clear e
    induction ws with
    | nil => rfl
    | cons y r ih =>
      rw [List.flatMap_cons, List.length_append, ih fun z hz => h z (List.mem_cons_of_mem _ hz), List.length_cons]
      have : y.cps.toList.length = 1 := by rw [Array.length_toList]; exact (h y (List.mem_cons_self ..)).1
      omega
  refine ⟨by rw [← el, ← e, Array.length_toList]; rfl, fun c hc => ?_⟩
  rw [e] at hc
  obtain ⟨y, hy, hc⟩ := List.mem_flatMap.mp hc
  have := (h y hy).2 c hc
  omega
/-- the names that the law's loop turns -/
abbrev opt2 (a b : Str) (av bv : Option Value) (m₀ : Str → Option Value) : Str → Option Value := fun y => if y = a then av else if y = b then bv else m₀ y
theorem opt2_init {a b : Str} {m : Str → Option Value} : m = opt2 a b (m a) (m b) m := by
  funext y
  unfold opt2
  split
  · rename_i e; rw [e]
  · split
    · rename_i e; rw [e]
    · rfl
theorem opt2_turn {a b : Str} {A C : Value} {av bv : Option Value} {m₀ : Str → Option Value} : (fun y => if y = a then some A else if y = b then some C else opt2 a b av bv m₀ y) = opt2 a b (some A) (some C) m₀ := by
  funext y
  by_cases h1 : y = a
  · simp only [opt2, if_pos h1]
  · simp only [opt2, if_neg h1]
    by_cases h2 : y = b
    · simp only [if_pos h2]
    · simp only [if_neg h2]
def DrJ (L : Addr) (o1 : Obj) (S A : Addr) (place seed : Int) (ts : Tok) (n : Nat) (rest : List (Addr × Obj)) (m₀ : Str → Option Value) (i : Nat) (m : Str → Option Value) (nx : List (Addr × Obj)) : Prop :=
  ∃ (dv tv : Option Value) (pl : Int) (tq : Tok), m = opt2 "drawn" "turn" dv tv m₀ ∧ nx = (L + 1, o1) :: (S, stO A pl tq seed ts n) :: rest ∧ place ≤ pl ∧ pl ≤ place + 11 * i
section
variable {prog : Program} {w : World} {A : Around} {E : Value → Shared → Prop} {Q : Flow → Shared → Prop} {s : Shared} {env : Env} {h₀ : Heap}
theorem dr_loop {L : Addr} {o1 : Obj} {S A' : Addr} {place seed : Int} {tq ts : Tok} {n : Nat} {rest : List (Addr × Obj)} {body : List Stmt} {r : Addr} {t₀ u₀ v₀ : Tok} {m : Str → Option Value}
    (hh : A.handled = none) (hr : IsRange s.heap r 0 4 1 t₀ u₀ v₀) (F : Fr h₀ env.locals s.heap m) (N : News h₀ env.locals s.heap ((L + 1, o1) :: (S, stO A' place tq seed ts n) :: rest))
    (turn : ∀ i t I it m₁ nx h tk, i < 4 → DrJ L o1 S A' place seed ts n rest m i m₁ nx → (∀ p ∈ (L + 1, o1) :: (S, stO A' place tq seed ts n) :: rest, p.1 < I) → Fr h₀ env.locals h (fun y => if y = "turn" then some (.int (i : Int) t) else m₁ y) → News h₀ env.locals h ((I, it) :: nx) →
      wpAny (model prog w) A (execs body env) (FOne h₀ env.locals { s with heap := h, toks := tk } I it (DrJ L o1 S A' place seed ts n rest m (i + 1)) Q) E { s with heap := h, toks := tk })
    (exit : ∀ m₁ nx h tk, DrJ L o1 S A' place seed ts n rest m 4 m₁ nx → Fr h₀ env.locals h m₁ → News h₀ env.locals h nx → Q .next { s with heap := h, toks := tk }) :
    wpAny (model prog w) A (pyIter (.ref r)) (fun it s₂ => LoopAtV prog w A h₀ env "turn" body Q E it s₂) E s :=
  for_rangeF (n := 4) (DrJ L o1 S A' place seed ts n rest m) hh hr rfl rfl F N ⟨m "drawn", m "turn", place, tq, opt2_init, rfl, by omega, by omega⟩ turn exit
end
theorem dr_turn {s : Shared} {h₀ h' : Heap} {tk' : Nat} {L L' S A I : Addr} {it o1 : Obj} {place pl seed : Int} {tq ts : Tok} {n i : Nat} {rest nx' : List (Addr × Obj)} {m₀ : Str → Option Value} {X C : Value} {dv tv : Option Value} {Q : Flow → Shared → Prop}
    (F : Fr h₀ L' h' (fun y => if y = "drawn" then some X else if y = "turn" then some C else opt2 "drawn" "turn" dv tv m₀ y)) (N : News h₀ L' h' nx') (l : L + 1 < I ∧ S < I ∧ AllLt I rest)
    (hs : ∀ p ∈ (I, it) :: (L + 1, o1) :: (S, stO A pl tq seed ts n) :: rest, p ∈ nx') (h1 : place ≤ pl) (h2 : pl ≤ place + 11 * ((i + 1 : Nat) : Int)) :
    FOne h₀ L' s I it (DrJ L o1 S A place seed ts n rest m₀ (i + 1)) Q .next { s with heap := h', toks := tk' } :=
  FOne.of (nx := (L + 1, o1) :: (S, stO A pl tq seed ts n) :: rest) F N hs (fun p hp => Nat.ne_of_lt (lt_of_all (l := (L + 1, o1) :: (S, stO A pl tq seed ts n) :: rest) l p hp))
    ⟨_, _, pl, tq, opt2_turn, rfl, h1, h2⟩
theorem ne_same {prog : Program} {w : World} {A : Around} {E : Value → Shared → Prop} {s : Shared} {a : Int} {t u : Tok} {Q : Value → Shared → Prop} (h : Q (.bool false) s) : wpAny (model prog w) A (compareOp .NotEq (.int a t) (.int a u)) Q E s :=
  ne_int (by rw [bne_self_eq_false]; exact h)
section
local macro_rules | `(tactic| walk_at "compareOp NotEq int int") => `(tactic| refine ne_same ?_)
local macro_rules | `(tactic| walk_at "eval ListComp") => `(tactic| (k_here; k_dflt (refine LCg.ListComp_U (F₀ := by k_asm) (by with_unfolding_all rfl) (by decide) (by rfl) (by decide) (by rfl) ?_)))
local macro_rules | `(tactic| walk_at "CompSrc") => `(tactic| refine Hold.out ?_)
local macro_rules | `(tactic| walk_at "exec For Name Call cons nil") => `(tactic| refine Hold.out ?_)
local macro_rules | `(tactic| walk_at "pyIter ref") => `(tactic| refine Hold.out ?_)
local macro_rules | `(tactic| k_updF) => `(tactic| (refine' UpdF.head ?a; (case a => assumption)))
theorem seg13 {prog : Program} {w : World} {p : Program} {loose : List Str} {mean : ExcName → Option Value} {mg mb : Str → Option Value} (hpp : ProgOk prog)
  {fa L : Addr} {cd : Value} {h₀ : Heap} {m : Str → Option Value} {s : Shared} {Q : Flow → Shared → Prop} {E : Value → Shared → Prop}
  {S A : Addr} {place seed : Int} {tq ts : Tok} {n : Nat} {vs : List Value} {ns : List Int} {na : Nat} {rest : List (Addr × Obj)} {o1 : Obj}
  (hp : 0 ≤ place) (hp2 : place ≤ 80000) (hs : 0 ≤ seed) (hs2 : seed ≤ 1000) (hA : (A, listOf vs.toArray na) ∈ rest) (hne : ∀ p ∈ rest, p.1 ≠ S) (hi : IntsAre vs ns) (hl : ns.length ≤ 1000) (hoc : o1.data = .cell (some (.ref S))) (hLS : L + 1 ≠ S)
  (B : Below callerA h₀ [] h₀) (F : Fr h₀ L s.heap m) (X : (hd.heap_39 w.params).In h₀) (N : News h₀ L s.heap ((L + 1, o1) :: (S, stO A place tq seed ts n) :: rest)) (T : Top p loose mean mg mb h₀)
  (hE : PassesOwn (model prog w) (callerA.deeper (lawEnv L fa cd)) (lawEnv L fa cd) E)
  (hret : ∀ (h' : Heap) (tk' : Nat) (m' : Str → Option Value) (pl : Int) (tp : Tok), Fr h₀ L h' m' → News h₀ L h' ((L + 1, o1) :: (S, stO A pl tp seed ts n) :: rest) → Q (.ret (.bool true)) { s with heap := h', toks := tk' }) :
  wpAny (model prog w) (callerA.deeper (lawEnv L fa cd)) (execs (lawFn.body.drop 13) (lawEnv L fa cd)) Q E s := by
  have hAS : A ≠ S := hne _ hA
  unfold lawEnv lawFn getFn at hE ⊢
  dsimp only [List.drop]
  k_steps
  refine Hold.mk ?_
  (with_unfolding_all refine' For_invVF (hE := hE) F ?k1 ?k2 ?_; (case k1 => exact rfl); (case k2 => exact rfl); k_whole)
  clear hE
  k_steps
  rename Fr _ _ _ _ => kF
  rename News _ _ _ _ => kN
  rename IsRange _ _ _ _ _ _ _ _ => kR
  refine Hold.mk (dr_loop rfl kR kF kN ?_ ?_)
  · intro i t I it m₁ nx h tk hit hJ lI F1 N1
    obtain ⟨dv, tv, pl, tq', rfl, rfl, p1, p2⟩ := hJ
    k_lt lI
    have lI2 := lI
    k_steps
    rename Fr _ _ _ _ => kF2
    rename News _ _ _ _ => kN2
    rename IsRange _ _ _ _ _ _ _ _ => kR2
    rename (0 : Int) ≤ _ => r0
    rename (_ : Int) < 11 => r1
    refine Hold.mk (LCg.CompSrc.range (by rfl) kF2 kN2 kR2 (small_one (by omega) (by omega) (by omega) (by omega)) (rangeSize_nat _ _) (by rw [PySem.sizeLine_eq]; omega) ?_)
    intro g9
    refine comp_inv (fun j ys nw => ∃ (pl2 : Int) (tq2 : Tok) (ws : List Str), nw = (I, it) :: (L + 1, o1) :: (S, stO A pl2 tq2 seed ts n) :: rest ∧ pl ≤ pl2 ∧ pl2 ≤ pl + 1 + j ∧ SA ys ws ∧ ws.length = j ∧ ∀ y ∈ ws, DrawOk y)
      ⟨pl + 1, _, [], rfl, by omega, by omega, .nil, rfl, fun _ h => nomatch h⟩ ?_ ?_
    · rintro j v I2 oI C oC D m₂ ys nw h tk E' hlt ⟨pl2, tq2, ws, rfl, h1, h2, hS, hw, hG⟩ hv hC hx F N off ne
      simp only [LCg.Off3] at off
      have ht : (j : Int) < 11 := by omega
      k_steps
      rename Fr _ _ _ _ => kF
      rename News _ _ _ _ => kN
      rename (0 : Int) ≤ _ => q0
      rename (_ : Int) < 8 => q1
      refine LCg.CompEnd.intro kF kN ((I, it) :: (L + 1, o1) :: (S, stO A (pl2 + 1) _ seed ts n) :: rest) (fun _ h => h) off True.intro ⟨pl2 + 1, _, ws ++ [_], rfl, by omega, by omega, sa_snoc hS, by rw [List.length_append, List.length_singleton, hw], fun y hy => ?_⟩
      rcases List.mem_append.mp hy with hy | hy
      · exact hG y hy
      · rw [List.mem_singleton.mp hy]; exact drawn_sign q0 q1
    · rintro ys nw ⟨pl2, tq2, ws, rfl, h1, h2, hS, hw, hG⟩
      k_steps
      rename News _ _ _ _ => kN
      refine join_N (B := 1) kN (List.mem_cons_self ..) hS (fun y hy => Nat.le_of_eq (hG y hy).1) (by omega) (by decide +kernel) (fun t' tk => ?_)
      obtain ⟨hxl, hxs⟩ := drawn_join hG
      generalize Txt.join (Str.ofString "") ws = x at hxl hxs ⊢
      have hx19 : x.length ≤ 19 := by omega
      have hx1000 : x.length ≤ 1000 := by omega
      have b1 : place ≤ pl2 := by omega
      have b2 : pl2 ≤ place + 11 * ((i + 1 : Nat) : Int) := by omega
      clear hG hS hw h1 h2 F1 kN2 kF2 kR2 kR
      rcases hw : readR (wEnd x) x with k | ws1
      · rcases hu : readR (uEnd x) x with k2 | ws2
        · k_steps
          rename Fr _ _ _ _ => kF
          rename News _ _ _ _ => kN
          exact dr_turn kF kN lI2 (by kcf_all) b1 b2
        · have sm2 := read_small hxs hu
          k_steps
          rename Fr _ _ _ _ => kF
          rename News _ _ _ _ => kN
          exact dr_turn kF kN lI2 (by kcf_all) b1 b2
      · have sm1 := read_small hxs hw
        rcases hu : readR (uEnd x) x with k2 | ws2
        · k_steps
          rename Fr _ _ _ _ => kF
          rename News _ _ _ _ => kN
          exact dr_turn kF kN lI2 (by kcf_all) b1 b2
        · have sm2 := read_small hxs hu
          k_steps
          rename Fr _ _ _ _ => kF
          rename News _ _ _ _ => kN
          exact dr_turn kF kN lI2 (by kcf_all) b1 b2
  · intro m₁ nx h tk hJ F1 N1
    obtain ⟨dv, tv, pl, tq', rfl, rfl, p1, p2⟩ := hJ
    dsimp only
    exact seg14 hpp B F1 X N1 T (fun h' tk' F' N' => hret h' tk' _ pl tq' F' N')
end
end
theorem fresh34 : True := by
  w_top off
  trivial
section
theorem c0_q (w : World) : ∀ h₀ : Heap, (hd.heap_39 w.params).In h₀ → CodeHd h₀ 117 113 := fun _ X => codeHd_of_K X (by kernel_rfl)
theorem c0_u (w : World) : ∀ h₀ : Heap, (hd.heap_39 w.params).In h₀ → CodeHd h₀ 100 96 := fun _ X => codeHd_of_K X (by kernel_rfl)
theorem allLt_mem {d : Addr} {l l' : List (Addr × Obj)} (h : AllLt d l) (hs : ∀ p ∈ l', ∃ q ∈ l, q.1 = p.1) : AllLt d l' := allLt_of (fun p hp => by
  obtain ⟨q, hq, e⟩ := hs p hp
  have := lt_of_all h q hq
  rw [← e]; exact this)
theorem upd_keys {d : Addr} {o : Obj} {l : List (Addr × Obj)} {g : Obj → List (Addr × Obj)} (U : UpdF d o l g) {rest : List (Addr × Obj)} (h : ∀ q ∈ l, q.1 ≠ d → q ∈ rest) (o' : Obj) : ∀ p ∈ l, ∃ q ∈ (d, o') :: rest, q.1 = p.1 := by
  intro p hp
  by_cases e : p.1 = d
  · exact ⟨(d, o'), List.mem_cons_self .., e.symm⟩
  · exact ⟨p, List.mem_cons_of_mem _ (h p hp e), rfl⟩
section
variable {prog : Program} {w : World} {p : Program} {loose : List Str} {mean : ExcName → Option Value} {mg mb : Str → Option Value} {x : Str} {tx : Tok} {nw : List (Addr × Obj)} {g : Obj → List (Addr × Obj)}
theorem c_q1 (hx : x.length ≤ 100) (hq : AllQp x) (U : UpdF 113 (tabObj #[]) nw g) :
  CxT prog w p loose mean mg mb 6 [.str x tx] 261 fun h₀ L m news s Q E =>
   news = nw ∧
   (∀ (c' : Addr) (oc : Obj) (h' : Heap) (tk' : Nat) (t1 : Tok), LamAt "build_quoted_string" oc → Fr h₀ L h' m → News h₀ L h' ((c', oc) :: g (tabObj #[rawInt 38, rawInt 31, .ref c'])) → AllLt c' nw → Q (.str (bqOut x) t1) { s with heap := h', toks := tk' }) := by
  rintro dp un gd cn cs a ccd cl A₀ h₀ L m news s Q E B F X N T hk hd hu ⟨rfl, hret⟩
  obtain ⟨rest, r1, r2, r3, r4⟩ := upd_front U
  refine CxT.use (c_quotes1 x tx hx hq rest r3 (c0_q w)) B F X (fun p hp => N p (r1 p hp)) T hk hd hu ⟨rfl, fun c' oc h' tk' t1 hL F' N' l => hret c' oc h' tk' t1 hL F' (fun p hp => N' p ?_) (allLt_mem l (upd_keys U r4 _))⟩
  rcases List.mem_cons.mp hp with rfl | hp
  · exact List.mem_cons_self ..
  · exact List.mem_cons_of_mem _ (r2 _ p hp)
theorem c_q2 {c' : Addr} {oc : Obj} (hx : x.length ≤ 100) (hq : AllQp x) (hm : (113, tabObj #[rawInt 38, rawInt 31, .ref c']) ∈ nw) (hc : (c', oc) ∈ nw) (hoc : LamAt "build_quoted_string" oc) :
  CxT prog w p loose mean mg mb 6 [.str x tx] 261 fun h₀ L m news s Q E =>
   news = nw ∧ (∀ (h' : Heap) (tk' : Nat) (t1 : Tok), Fr h₀ L h' m → News h₀ L h' nw → Q (.str (bqOut x) t1) { s with heap := h', toks := tk' }) := by
  rintro dp un gd cn cs a ccd cl A₀ h₀ L m news s Q E B F X N T hk hd hu ⟨rfl, hret⟩
  refine CxT.use (c_quotes2 x tx hx hq news c' oc hoc (c0_q w)) B F X (fun p hp => ?_) T hk hd hu ⟨rfl, fun h' tk' t1 F' N' => hret h' tk' t1 F' (fun p hp => N' p (List.mem_cons_of_mem _ (List.mem_cons_of_mem _ hp)))⟩
  rcases List.mem_cons.mp hp with rfl | hp
  · exact N _ hm
  · rcases List.mem_cons.mp hp with rfl | hp
    · exact N _ hc
    · exact N _ hp
theorem c_u1 {k : Int} {i e : Nat} {ti : Tok} {y : Str} (hpp : ProgOk prog) (hki : k = i) (hi : i ≤ x.length) (hx : x.length ≤ 100) (hq : qFind x.cps x.length i = some e) (ho : qsOut x i e = y) (U : UpdF 96 (tabObj #[]) nw g) :
  CxT prog w p loose mean mg mb 7 [.str x tx, .int k ti] 268 fun h₀ L m news s Q E =>
   news = nw ∧
   (∀ (T c' : Addr) (oc : Obj) (h' : Heap) (tk' : Nat) (t1 t2 : Tok), LamAt "parse_quoted_string" oc → Fr h₀ L h' m → News h₀ L h' ((T, tupObj [.str y t1, .int (e : Nat) t2]) :: (c', oc) :: g (tabObj #[rawInt 31, rawInt 28, .ref c'])) → AllLt c' nw → AllLt T ((c', oc) :: nw) → Q (.ref T) { s with heap := h', toks := tk' }) := by
  subst ho
  rintro dp un gd cn cs a ccd cl A₀ h₀ L m news s Q E B F X N T hk hd hu ⟨rfl, hret⟩
  obtain ⟨rest, r1, r2, r3, r4⟩ := upd_front U
  refine CxT.use (c_unq1 hpp x tx k i ti hki hi hx e hq rest r3 (c0_u w)) B F X (fun p hp => N p (r1 p hp)) T hk hd hu ⟨rfl, fun T' c' oc h' tk' t1 t2 hL F' N' l l2 => hret T' c' oc h' tk' t1 t2 hL F' (fun p hp => N' p ?_) (allLt_mem l (upd_keys U r4 _)) ⟨l2.1, allLt_mem l2.2 (upd_keys U r4 _)⟩⟩
  rcases List.mem_cons.mp hp with rfl | hp
  · exact List.mem_cons_self ..
  · rcases List.mem_cons.mp hp with rfl | hp
    · exact List.mem_cons_of_mem _ (List.mem_cons_self ..)
    · exact List.mem_cons_of_mem _ (List.mem_cons_of_mem _ (r2 _ p hp))
theorem c_u2 {k : Int} {i e : Nat} {ti : Tok} {c' : Addr} {oc : Obj} {y : Str} (hpp : ProgOk prog) (hki : k = i) (hi : i ≤ x.length) (hx : x.length ≤ 100) (hq : qFind x.cps x.length i = some e) (ho : qsOut x i e = y) (hm : (96, tabObj #[rawInt 31, rawInt 28, .ref c']) ∈ nw) (hc : (c', oc) ∈ nw) (hoc : LamAt "parse_quoted_string" oc) :
  CxT prog w p loose mean mg mb 7 [.str x tx, .int k ti] 268 fun h₀ L m news s Q E =>
   news = nw ∧ (∀ (T : Addr) (h' : Heap) (tk' : Nat) (t1 t2 : Tok), Fr h₀ L h' m → News h₀ L h' ((T, tupObj [.str y t1, .int (e : Nat) t2]) :: nw) → AllLt T nw → Q (.ref T) { s with heap := h', toks := tk' }) := by
  subst ho
  rintro dp un gd cn cs a ccd cl A₀ h₀ L m news s Q E B F X N T hk hd hu ⟨rfl, hret⟩
  refine CxT.use (c_unq2 hpp x tx k i ti hki hi hx news c' oc hoc (c0_u w)) B F X (fun p hp => ?_) T hk hd hu ⟨rfl, fun e' T' h' tk' t1 t2 hq' F' N' l => ?_, fun t h' tk' hn => ?_⟩
  · rcases List.mem_cons.mp hp with rfl | hp
    · exact N _ hm
    · rcases List.mem_cons.mp hp with rfl | hp
      · exact N _ hc
      · exact N _ hp
  · cases hq.symm.trans hq'
    refine hret T' h' tk' t1 t2 F' (fun p hp => N' p ?_) l.2.2
    rcases List.mem_cons.mp hp with rfl | hp
    · exact List.mem_cons_self ..
    · exact List.mem_cons_of_mem _ (List.mem_cons_of_mem _ (List.mem_cons_of_mem _ hp))
  · cases hq.symm.trans hn
theorem c_u2n {k : Int} {i : Nat} {ti : Tok} {c' : Addr} {oc : Obj} (hpp : ProgOk prog) (hki : k = i) (hi : i ≤ x.length) (hx : x.length ≤ 100) (hq : qFind x.cps x.length i = none) (hm : (96, tabObj #[rawInt 31, rawInt 28, .ref c']) ∈ nw) (hc : (c', oc) ∈ nw) (hoc : LamAt "parse_quoted_string" oc) :
  CxT prog w p loose mean mg mb 7 [.str x tx, .int k ti] 268 fun h₀ L m news s Q E =>
   news = nw ∧ (∀ (t : Tok) (h' : Heap) (tk' : Nat), Fr h₀ L h' m → News h₀ L h' nw → Q (.int i t) { s with heap := h', toks := tk' }) := by
  rintro dp un gd cn cs a ccd cl A₀ h₀ L m news s Q E B F X N T hk hd hu ⟨rfl, hret⟩
  refine CxT.use (c_unq2 hpp x tx k i ti hki hi hx news c' oc hoc (c0_u w)) B F X (fun p hp => ?_) T hk hd hu ⟨rfl, fun e' T' h' tk' t1 t2 hq' F' N' l => ?_, fun t h' tk' hn F' N' => ?_⟩
  · rcases List.mem_cons.mp hp with rfl | hp
    · exact N _ hm
    · rcases List.mem_cons.mp hp with rfl | hp
      · exact N _ hc
      · exact N _ hp
  · cases hq.symm.trans hq'
  · exact hret t h' tk' F' (fun p hp => N' p (List.mem_cons_of_mem _ (List.mem_cons_of_mem _ hp)))
end
end
local macro_rules | `(tactic| walk_at "call ref") => `(tactic| (k_here; (with_reducible show wpAny _ _ (call (Value.ref 261) [_]) _ _ _); k_dflt (refine' CxT.use (c_q1 ?gx ?gq ?gU) ?B ?F ?X ?N ?T ?hk ?hd ?hu (And.intro rfl ?_); (case N => k_asm); (case gx => first | assumption | omega); (case gq => assumption); (case gU => k_updF); (case B => k_asm); (case F => k_asm); (case X => k_asm); (case T => k_asm); (case hk => first | exact rfl | assumption); (case hd => ktr_room); (case hu => ktr_units)); refine (fun c9 oc9 h9 tk9 t9 L9 F9 N9 l9 => ?_); (try dsimp only at N9); (try simp only [AllLt, and_true] at l9); (try k_sweep); (try dsimp only)))
local macro_rules | `(tactic| walk_at "call ref") => `(tactic| (k_here; (with_reducible show wpAny _ _ (call (Value.ref 261) [_]) _ _ _); k_dflt (refine' CxT.use (c_q2 ?gx ?gq ?gm ?gc ?go) ?B ?F ?X ?N ?T ?hk ?hd ?hu (And.intro rfl ?_); (case N => k_asm); (case gx => first | assumption | omega); (case gq => assumption); (case gm => kcf_m); (case gc => kcf_m); (case go => assumption); (case B => k_asm); (case F => k_asm); (case X => k_asm); (case T => k_asm); (case hk => first | exact rfl | assumption); (case hd => ktr_room); (case hu => ktr_units)); refine (fun h9 tk9 t9 F9 N9 => ?_); (try k_sweep); (try dsimp only)))
local macro_rules | `(tactic| walk_at "call ref") => `(tactic| (k_here; (with_reducible show wpAny _ _ (call (Value.ref 261) [_]) _ _ _); k_dflt (refine' CxT.use (c_quotesE _ _ ?gx ?gq) ?B ?F ?X ?N ?T ?hk ?hd ?hu ?_; (case N => k_asm); (case gx => first | assumption | omega); (case gq => assumption); (case B => k_asm); (case F => k_asm); (case X => k_asm); (case T => k_asm); (case hk => first | exact rfl | assumption); (case hd => ktr_room); (case hu => ktr_units)); refine (fun h9 tk9 F9 N9 => ?_); (try k_sweep); (try dsimp only)))
local macro_rules | `(tactic| walk_at "call ref") => `(tactic| (k_here; (with_reducible show wpAny _ _ (call (Value.ref 268) [_, _]) _ _ _); k_dflt (refine' CxT.use (c_u1 ?pp ?e0 ?e ?gx ?gq ?gy ?gU) ?B ?F ?X ?N ?T ?hk ?hd ?hu (And.intro rfl ?_); (case N => k_asm); (case pp => assumption); (case e0 => first | assumption | exact (rfl : (0 : Int) = ((0 : Nat) : Int)) | exact (rfl : (2 : Int) = ((2 : Nat) : Int))); (case gq => assumption); (case gy => assumption); (case e => first | assumption | exact Nat.zero_le _ | omega); (case gx => first | assumption | omega); (case gU => k_updF); (case B => k_asm); (case F => k_asm); (case X => k_asm); (case T => k_asm); (case hk => first | exact rfl | assumption); (case hd => ktr_room); (case hu => ktr_units)); refine (fun T9 c9 oc9 h9 tk9 t9 t9' L9 F9 N9 lc9 l9 => ?_); (try dsimp only at N9); (try simp only [AllLt, and_true] at lc9 l9); (try k_sweep); (try dsimp only)))
local macro_rules | `(tactic| walk_at "call ref") => `(tactic| (k_here; (with_reducible show wpAny _ _ (call (Value.ref 268) [_, _]) _ _ _); k_dflt (refine' CxT.use (c_u2 ?pp ?e0 ?e ?gx ?gq ?gy ?gm ?gc ?go) ?B ?F ?X ?N ?T ?hk ?hd ?hu (And.intro rfl ?_); (case N => k_asm); (case pp => assumption); (case e0 => first | assumption | exact (rfl : (0 : Int) = ((0 : Nat) : Int)) | exact (rfl : (2 : Int) = ((2 : Nat) : Int))); (case gq => assumption); (case gy => assumption); (case e => first | assumption | exact Nat.zero_le _ | omega); (case gx => first | assumption | omega); (case gm => kcf_m); (case gc => kcf_m); (case go => assumption); (case B => k_asm); (case F => k_asm); (case X => k_asm); (case T => k_asm); (case hk => first | exact rfl | assumption); (case hd => ktr_room); (case hu => ktr_units)); refine (fun T9 h9 tk9 t9 t9' F9 N9 l9 => ?_); (try simp only [AllLt, and_true] at l9); (try k_sweep); (try dsimp only)))
local macro_rules | `(tactic| walk_at "call ref") => `(tactic| (k_here; (with_reducible show wpAny _ _ (call (Value.ref 268) [_, _]) _ _ _); k_dflt (refine' CxT.use (c_u2n ?pp ?e0 ?e ?gx ?gq ?gm ?gc ?go) ?B ?F ?X ?N ?T ?hk ?hd ?hu (And.intro rfl ?_); (case N => k_asm); (case pp => assumption); (case e0 => first | assumption | exact (rfl : (0 : Int) = ((0 : Nat) : Int)) | exact (rfl : (2 : Int) = ((2 : Nat) : Int))); (case gq => assumption); (case e => first | assumption | exact Nat.zero_le _ | omega); (case gx => first | assumption | omega); (case gm => kcf_m); (case gc => kcf_m); (case go => assumption); (case B => k_asm); (case F => k_asm); (case X => k_asm); (case T => k_asm); (case hk => first | exact rfl | assumption); (case hd => ktr_room); (case hu => ktr_units)); refine (fun t9 h9 tk9 F9 N9 => ?_); (try k_sweep); (try dsimp only)))
local macro_rules | `(tactic| walk_at "no such step") => `(tactic| fail "none")
theorem fresh35 : True := by
  w_top off
  trivial
section
/-- the signs that the law's text may hold -/
def txtSigns : List Str := [Str.ofString "a", Str.ofString " ", Str.ofString "\"", Str.ofString "\\", Str.ofString "~", Str.ofString "\t", Str.ofString "!", Str.ofString "é"]
def txtCodes : List Nat := [97, 32, 34, 92, 126, 9, 33, 233]
theorem txt_join {ws : List Str} (h : ∀ y ∈ ws, y ∈ txtSigns) : (Txt.join (Str.ofString "") ws).length = ws.length ∧ ∀ c ∈ (Txt.join (Str.ofString "") ws).cps.toList, c ∈ txtCodes := by
  have e : (Txt.join (Str.ofString "") ws).cps.toList = ws.flatMap (·.cps.toList) := join_flat ws
  have k1 : ∀ y ∈ txtSigns, y.length = 1 := by decide +kernel
  have k2 : ∀ y ∈ txtSigns, ∀ c ∈ y.cps.toList, c ∈ txtCodes := by decide +kernel
  have el : ((ws.flatMap (·.cps.toList))).length = ws.length := by
    clear e
    induction ws with
    | nil => rfl
    | cons y r ih =>
      rw [List.flatMap_cons, List.length_append, ih fun z hz => h z (List.mem_cons_of_mem _ hz), List.length_cons]
      have : y.cps.toList.length = 1 := by rw [Array.length_toList]; exact k1 y (h y (List.mem_cons_self ..))
      omega
  refine ⟨by rw [← el, ← e, Array.length_toList]; rfl, fun c hc => ?_⟩
  rw [e] at hc
  obtain ⟨y, hy, hc⟩ := List.mem_flatMap.mp hc
  exact k2 y (h y hy) c hc
theorem join_C {prog : Program} {w : World} {A : Around} {E : Value → Shared → Prop} {s : Shared} {D : Addr} {B : Nat} {sep : Str} {vs : List Value} {ws : List Str} {t : Tok} {Q : Value → Shared → Prop} (hl : s.heap.IsList D vs.toArray) (hs : CarriedAll vs (ws.map PyData.str)) (hB : ∀ y ∈ ws, y.length ≤ B) (hn : ws.length ≤ 1000) (hsep : B + sep.length ≤ 16)
    (h : ∀ t' tk, Q (.str (Txt.join sep ws) t') { s with toks := tk }) : wpAny (model prog w) A (call (.builtin "str.join") [.str sep t, .ref D]) Q E s := by
  have e : ws.map (id : Str → Str) = ws := List.map_id _
  refine join_madeW (g := (id : Str → Str)) (l := ws) (items := vs.toArray) B hl ?_ hB (by omega) hsep (fun t' tk => ?_)
  · rw [e]; exact hs
  · rw [e]; exact h t' tk
theorem flat_signs (l : List Nat) : (l.map fun c => (⟨#[c]⟩ : Str)).flatMap (·.cps.toList) = l := by
  induction l with
  | nil => rfl
  | cons c l ih => rw [List.map_cons, List.flatMap_cons, ih]; rfl
theorem plain_filter (x : Str) : (signs x).filter (fun a => decide (a.cps.toList < (Str.ofString "\x7f").cps.toList)) = (x.cps.toList.filter (fun c => decide (c < 127))).map fun c => (⟨#[c]⟩ : Str) := by
  unfold signs
  rw [List.filter_map]
  congr 1
  apply List.filter_congr
  intro c _
  have e : (Str.ofString "\x7f").cps.toList = [127] := by decide +kernel
  show decide ([c] < (Str.ofString "\x7f").cps.toList) = decide (c < 127)
  rw [e]
  by_cases h : c < 127
  · rw [decide_eq_true h, decide_eq_true]; exact List.cons_lt_cons_iff.mpr (.inl h)
  · rw [decide_eq_false h, decide_eq_false]
    intro h2
    rcases List.cons_lt_cons_iff.mp h2 with h3 | ⟨_, h3⟩
    · exact h h3
    · cases h3
theorem plain_join (x : Str) : (Txt.join (Str.ofString "") ((signs x).filter (fun a => decide (a.cps.toList < (Str.ofString "\x7f").cps.toList)))).cps.toList = x.cps.toList.filter (fun c => decide (c < 127)) := by
  rw [plain_filter]
  exact (join_flat _).trans (flat_signs _)
theorem fine_txt {l : List Nat} (h : ∀ c ∈ l, c ∈ txtCodes ∧ c < 127) : Fine l := by
  have k : ∀ c ∈ txtCodes, c < 127 → isQp c = true ∧ (isQt c = false → isQd c = true) := by decide +kernel
  exact fun c hc => k c (h c hc).1 (h c hc).2
theorem qp_txt {l : List Nat} (h : ∀ c ∈ l, c ∈ txtCodes) : ∀ c ∈ l, isQp c = true := by
  have k : ∀ c ∈ txtCodes, isQp c = true := by decide +kernel
  exact fun c hc => k c (h c hc)
theorem esc_len2 (l : List Nat) : (l.flatMap esc).length ≤ 2 * l.length := by
  induction l with
  | nil => exact Nat.le_refl _
  | cons c l ih =>
    rw [List.flatMap_cons, List.length_append, List.length_cons]
    have : (esc c).length ≤ 2 := by unfold esc; split <;> simp
    omega
theorem bq_length (x : Str) : (bqOut x).length = (x.cps.toList.flatMap esc).length + 2 := by
  rw [len_list, bqOut_list]; simp
/-- the quoted text reads back -/
theorem back_0 {y : Str} (hy : Fine y.cps.toList) : qFind (bqOut y).cps (bqOut y).length 0 = some (bqOut y).length ∧ qsOut (bqOut y) 0 (bqOut y).length = y := by
  have h : At (bqOut y) 0 (34 :: (y.cps.toList.flatMap esc ++ 34 :: [])) := ⟨Nat.zero_le _, bqOut_list y⟩
  have e : (bqOut y).length = 0 + (y.cps.toList.flatMap esc).length + 2 := by rw [bq_length]; omega
  constructor
  · have := find_some h hy
    rw [← e] at this
    exact this
  · have := qsOut_at h hy
    rw [← e] at this
    exact this
/-- and in the midst of another -/
theorem back_2 {y : Str} (hy : Fine y.cps.toList) : qFind (Str.ofString "ab" ++ bqOut y ++ Str.ofString "c").cps (Str.ofString "ab" ++ bqOut y ++ Str.ofString "c").length 2 = some (2 + (bqOut y).length) ∧ qsOut (Str.ofString "ab" ++ bqOut y ++ Str.ofString "c") 2 (2 + (bqOut y).length) = y := by
  have h : At (Str.ofString "ab" ++ bqOut y ++ Str.ofString "c") 2 (34 :: (y.cps.toList.flatMap esc ++ 34 :: [99])) := by
    refine ⟨?_, ?_⟩
    · rw [len_app, len_app]
      have : (Str.ofString "ab").length = 2 := by decide +kernel
      omega
    · rw [cps_app, cps_app, bqOut_list]
      have : (Str.ofString "ab").cps.toList = [97, 98] := by decide +kernel
      have e2 : (Str.ofString "c").cps.toList = [99] := by decide +kernel
      rw [this, e2]; simp
  have e : 2 + (bqOut y).length = 2 + (y.cps.toList.flatMap esc).length + 2 := by rw [bq_length]; omega
  constructor
  · have := find_some h hy
    rw [← e] at this
    exact this
  · have := qsOut_at h hy
    rw [← e] at this
    exact this
theorem not_1 (y : Str) : qFind (Str.ofString "a" ++ bqOut y).cps (Str.ofString "a" ++ bqOut y).length 0 = none := by
  refine find_off (c := 97) (l := (bqOut y).cps.toList) ?_ (by decide)
  rw [cps_app]
  have : (Str.ofString "a").cps.toList = [97] := by decide +kernel
  rw [this]; rfl
theorem not_cut {y z : Str} (hy : Fine y.cps.toList) (hz : z.cps.toList = (bqOut y).cps.toList.take ((bqOut y).length - 1)) : qFind z.cps z.length 0 = none := by
  refine find_cut (l := y.cps.toList) ?_ hy
  rw [hz, bqOut_list, bq_length, show (y.cps.toList.flatMap esc).length + 2 - 1 = (y.cps.toList.flatMap esc).length + 1 by omega, List.take_succ_cons, List.take_left]
theorem not_nl {y : Str} (hy : ∀ c ∈ y.cps.toList, isQp c = true) : ¬ AllQp (y ++ Str.ofString "\n") := by
  refine qp_not (a := y.cps.toList) (c := 10) (b := []) ?_ hy (by decide)
  rw [cps_app]; rfl
theorem not_del (y : Str) : ¬ AllQp (Str.ofString "\x7f" ++ y) := by
  refine qp_not (a := []) (c := 127) (b := y.cps.toList) ?_ (fun _ h => nomatch h) (by decide)
  rw [cps_app]; rfl
section
variable {prog : Program} {w : World} {A : Around} {E : Value → Shared → Prop} {s : Shared} {h₀ : Heap} {L a b : Addr} {news : List (Addr × Obj)} {Q : Value → Shared → Prop}
theorem ne_str_eq {x y : Str} {t u : Tok} (e : x = y) (h : Q (.bool false) s) : wpAny (model prog w) A (compareOp .NotEq (.str x t) (.str y u)) Q E s := by
  subst e
  exact PyProof.Rows.ne_str (by rw [bne_self_eq_false]; exact h)
theorem small_lt {y : Str} (h : ∀ c ∈ y.cps.toList, c < 1000) : Small y := fun c hc => Nat.lt_of_lt_of_le (h c hc) (by decide)
theorem ne_tup {y : Str} {i j : Int} {t u t' u' : Tok} (N : News h₀ L s.heap news) (ha : (a, tupObj [.str y t, .int i u]) ∈ news) (hb : (b, tupObj [.str y t', .int j u']) ∈ news) (hy : Small y) (e : i = j) (hu : A.units + 64 < cLine) (h : Q (.bool false) s) :
    wpAny (model prog w) A (compareOp .NotEq (.ref a) (.ref b)) Q E s := by
  subst e
  have sh : SeqAt.shaped (.tuple [.str y, .int i]) = true := by
    simp [SeqAt.shaped, PyData.canLay0, PyData.canLayAll0, PyData.depth, PyData.depthAll, small_ok hy]
  refine PyProof.Rows.ne_dataH (da := .tuple [.str y, .int i]) (db := .tuple [.str y, .int i])
    (reads_tuple_at (N _ ha).1 rfl rfl (.cons (.str _ _) (.cons (.int _ _) .nil))) (reads_tuple_at (N _ hb).1 rfl rfl (.cons (.str _ _) (.cons (.int _ _) .nil))) sh sh hu ?_
  have e : (!PyData.eqv (.tuple [.str y, .int i]) (.tuple [.str y, .int i])) = false := by simp [PyData.eqv, PyData.eqvAll]
  rw [e]; exact h
end
theorem paired_carried {d : Nat → PyData} : ∀ {vs ys : List Value} {cs : List Nat}, vs.length = cs.length → (∀ (j : Nat) (v : Value), vs[j]? = some v → ∃ c u, cs[j]? = some c ∧ v = Value.str ⟨#[c]⟩ u) →
    Paired (fun v r => ∃ c u, v = Value.str ⟨#[c]⟩ u ∧ Carried r (d c)) vs ys → CarriedAll ys (cs.map d) := by
  intro vs ys cs hl hv hp
  induction hp generalizing cs with
  | nil => cases cs with
    | nil => exact .nil
    | cons => cases hl
  | cons h _ ih =>
    cases cs with
    | nil => cases hl
    | cons c cs =>
      obtain ⟨c1, u1, rfl, hc⟩ := h
      obtain ⟨c2, u2, e1, e2⟩ := hv 0 (Value.str ⟨#[c1]⟩ u1) rfl
      have e3 : c2 = c := by simpa using e1.symm
      have e4 : c1 = c2 := by cases e2; rfl
      rw [e4, e3] at hc
      exact .cons hc (ih (by simpa using hl) (fun j v h => by simpa using hv (j + 1) v (by simpa using h)))
section
variable {prog : Program} {w : World} {A : Around} {E : Value → Shared → Prop} {s : Shared} {h₀ : Heap} {L : Addr} {m : Str → Option Value} {news : List (Addr × Obj)} {env : Env}
/-- what a block over the signs of a text wants -/
def SgSrc (prog : Program) (w : World) (A : Around) (h₀ : Heap) (L : Addr) (env : Env) (elt : Expr) (x : Str) (scope : Scope) (d : Nat → PyData) (Q : Value → Shared → Prop) (xv : Value) (s₁ : Shared) : Prop :=
  ∃ y t m news, xv = .str y t ∧ y.length ≤ 1000 ∧ Fr h₀ L s₁.heap m ∧ News h₀ L s₁.heap news ∧
    (∀ C c u s₂ m₂ E', s₂.heap.Ns (compEnv scope C env).locals m₂ → m₂ x = some (.str ⟨#[c]⟩ u) → wpAny (model prog w) A (eval elt (compEnv scope C env)) (fun r s₃ => Carried r (d c) ∧ Keeps s₂ s₃) E' s₂) ∧
    (∀ D (ys : List Value) h' tk, Fr h₀ L h' m → News h₀ L h' news → h'.IsList D ys.toArray → CarriedAll ys (y.cps.toList.map d) → Q (.ref D) { s₁ with heap := h', toks := tk })
theorem comp_signs {elt iter : Expr} {x : Str} {px : Pos} {scope : Scope} {pos : Pos} {Q : Value → Shared → Prop} (d : Nat → PyData) (_ : Fr h₀ L s.heap m)
    (hh : A.handled = none) (hfree : ∀ y ∈ scope.names, y.2 ≠ .free) (hcell : ∀ y ∈ scope.names, y.2 ≠ .cell) (hkind : scope.kind = .function)
    (hnames : ∀ y ∈ scope.names, y.2 = .local → scope.names.lookup y.1 = some .local) (hx : scope.names.lookup x = some .local)
    (h : wpAny (model prog w) A (eval iter env) (SgSrc prog w A h₀ L env elt x scope d Q) E s)
    (hs : ∀ x, foldedSetIterable iter env x = pure x := by intro _; rfl) :
    wpAny (model prog w) A (eval (.ListComp elt [⟨.Name x px, iter, [], 0⟩] scope pos) env) Q E s := by
  refine wpAny_ListComp_walk (fun _ => true) (fun v r => ∃ c u, v = Value.str ⟨#[c]⟩ u ∧ Carried r (d c)) hfree hcell hkind hnames hx (wpAny_mono h (fun xv s₁ h₁ => ?_) fun _ _ e => e) hs
  obtain ⟨y, t, m, news, rfl, hsz, F, N, helt, hQ⟩ := h₁
  refine wpAny_pyIter_str fun o St W hst => ?_
  have hy : y.cps.size = y.length := rfl
  refine ⟨s₁.heap.objs.size, [s₁.heap.objs.size], [s₁.heap.objs.size], y.cps.size, SignAt y, St, rfl, W A hh, by rw [PySem.sizeLine_eq]; omega, hst, fun b hb => ?_, ⟨?_, ?_⟩, ?_⟩
  · rw [List.mem_singleton.mp hb]
    show s₁.heap.objs.size < (s₁.heap.push o).objs.size
    rw [Heap.size_push]; exact Nat.lt_succ_self _
  · intro C i v s₃ m₃ E' _ _ _ _ _
    exact wpAny_pure ⟨rfl, s₃.heap, s₃.toks, rfl, fun _ _ e => e⟩
  · intro C i v s₃ m₃ E' hP _ hn hm _ _
    obtain ⟨c, u, _, rfl⟩ := hP
    exact wpAny_mono (helt C c u s₃ m₃ E' hn hm) (fun r s₄ q => ⟨⟨c, u, rfl, q.1⟩, q.2⟩) fun _ _ e => e
  · intro D h' tk ys vs _ hD _ hlen hP hF hk
    have up : ∀ b o', s₁.heap.get? b = some o' → h'.get? b = some o' := fun b o' e => hk b o' (fun hb => absurd (Heap.lt_size e) (by rw [List.mem_singleton.mp hb]; exact Nat.lt_irrefl _)) (Heap.get?_push_of_some _ e)
    rw [List.filter_eq_self.mpr (fun _ _ => rfl)] at hF
    refine hQ D ys.toList h' tk (F.keeps up) (N.grown up) (by rw [Array.toArray_toList]; exact hD) (paired_carried (by rw [hlen, Array.length_toList]) (fun j v hv => ?_) hF)
    obtain ⟨c, u, hc, rfl⟩ := hP j v hv
    exact ⟨c, u, by rw [Array.getElem?_toList]; exact hc, rfl⟩
end
def escS (c : Nat) : Str := if isQt c then Str.ofString "\\" ++ ⟨#[c]⟩ else ⟨#[c]⟩
theorem qt_mem (c : Nat) : decide (c ∈ (Str.ofString "\"\\").cps.toList) = isQt c := by
  have e : (Str.ofString "\"\\").cps.toList = [34, 92] := by decide +kernel
  rw [e]
  unfold isQt
  by_cases h1 : c = 34 <;> by_cases h2 : c = 92 <;> simp [h1, h2]
theorem qt_in (c : Nat) : (!(Builtin.Str.occurrences (Str.ofString "\"\\") ⟨#[c]⟩ 0 (Str.ofString "\"\\").length 1).isEmpty) = isQt c :=
  (StrLaws.found_one _ c).trans (qt_mem c)
theorem escS_yes {c : Nat} (h : (!(Builtin.Str.occurrences (Str.ofString "\"\\") ⟨#[c]⟩ 0 (Str.ofString "\"\\").length 1).isEmpty) = true) : escS c = Str.ofString "\\" ++ ⟨#[c]⟩ := by
  rw [qt_in] at h; unfold escS; rw [if_pos h]
theorem escS_no {c : Nat} (h : ¬ (!(Builtin.Str.occurrences (Str.ofString "\"\\") ⟨#[c]⟩ 0 (Str.ofString "\"\\").length 1).isEmpty) = true) : escS c = ⟨#[c]⟩ := by
  rw [qt_in] at h; unfold escS; rw [if_neg h]
theorem escS_list (l : List Nat) : (l.map escS).flatMap (·.cps.toList) = l.flatMap esc := by
  induction l with
  | nil => rfl
  | cons c l ih =>
    rw [List.map_cons, List.flatMap_cons, List.flatMap_cons, ih]
    congr 1
    unfold escS esc
    split
    · rw [cps_app]; rfl
    · rfl
theorem escS_len (c : Nat) : (escS c).length ≤ 2 := by
  unfold escS
  split
  · rw [len_app]
    have : (Str.ofString "\\").length = 1 := by decide +kernel
    have : (⟨#[c]⟩ : Str).length = 1 := rfl
    omega
  · show 1 ≤ 2
    decide
/-- the due text is what build_quoted_string gives -/
theorem due_eq (y : Str) : bqOut y = Str.ofString "\"" ++ Txt.join (Str.ofString "") (y.cps.toList.map escS) ++ Str.ofString "\"" := by
  have h : (bqOut y).cps.toList = (Str.ofString "\"" ++ Txt.join (Str.ofString "") (y.cps.toList.map escS) ++ Str.ofString "\"").cps.toList := by
    rw [bqOut_list, cps_app, cps_app]
    have e : (Txt.join (Str.ofString "") (y.cps.toList.map escS)).cps.toList = y.cps.toList.flatMap esc := (join_flat _).trans (escS_list _)
    rw [e]; rfl
  generalize bqOut y = a at h ⊢
  generalize Str.ofString "\"" ++ Txt.join (Str.ofString "") (y.cps.toList.map escS) ++ Str.ofString "\"" = b at h ⊢
  obtain ⟨⟨a⟩⟩ := a
  obtain ⟨⟨b⟩⟩ := b
  exact congrArg (fun l : List Nat => (⟨⟨l⟩⟩ : Str)) h
theorem carr_no {c : Nat} {u : Tok} (h : (Builtin.Str.occurrences (Str.ofString "\"\\") ⟨#[c]⟩ 0 (Str.ofString "\"\\").length 1).isEmpty = true) : Carried (.str ⟨#[c]⟩ u) (PyData.str (escS c)) := by
  rw [escS_no (by rw [h]; decide)]; exact .str _ _
theorem carr_yes {c : Nat} {u : Tok} (h : (Builtin.Str.occurrences (Str.ofString "\"\\") ⟨#[c]⟩ 0 (Str.ofString "\"\\").length 1).isEmpty = false) : Carried (.str (Str.ofString "\\" ++ ⟨#[c]⟩) u) (PyData.str (escS c)) := by
  rw [escS_yes (by rw [h]; rfl)]; exact .str _ _
end
theorem fresh36 : True := by
  w_top off
  trivial
section
section
local macro_rules | `(tactic| walk_at "call builtin:str.join") => `(tactic| (k_here; refine Hold.out ?_))
local macro_rules | `(tactic| walk_at "compareOp NotEq str str") => `(tactic| (refine ne_str_eq ?he ?_; (case he => first | rfl | assumption)))
local macro_rules | `(tactic| walk_at "compareOp NotEq int int") => `(tactic| refine ne_same ?_)
local macro_rules | `(tactic| walk_at "compareOp NotEq ref ref") => `(tactic| (k_here; k_dflt (refine' ne_tup ?N ?a ?b ?y ?e ?u ?_; (case N => k_asm); (case a => kcf_m); (case b => kcf_m); (case y => assumption); (case e => first | rfl | omega); (case u => ke_room); k_whole)))
local macro_rules | `(tactic| walk_at "eval ListComp") => `(tactic| (k_here; k_dflt (refine comp_signs (fun c => PyData.str (escS c)) (by k_asm) (by rfl) (by decide) (by decide) (by rfl) (by decide) (by rfl) ?_)))
local macro_rules | `(tactic| walk_at "SgSrc") => `(tactic| refine Hold.out ?_)
local macro_rules | `(tactic| walk_at "execs cons") => `(tactic| (k_here; (with_reducible show wpAny _ _ (execs (Stmt.For _ _ _ _ _ :: _) _) _ _ _); refine Hold.out ?_))
theorem seg12 {prog : Program} {w : World} {p : Program} {loose : List Str} {mean : ExcName → Option Value} {mg mb : Str → Option Value} (hpp : ProgOk prog)
  {fa L : Addr} {cd : Value} {h₀ : Heap} {m : Str → Option Value} {s : Shared} {Q : Flow → Shared → Prop} {E : Value → Shared → Prop}
  {S A : Addr} {place seed : Int} {tq ts : Tok} {n : Nat} {vs : List Value} {ns : List Int} {na : Nat} {o1 : Obj} {x y : Str} {tx ty td tz : Tok} {c9 c8 : Addr} {oc9 oc8 : Obj}
  (hxs : ∀ c ∈ x.cps.toList, c ∈ txtCodes) (hx7 : x.length ≤ 7) (hpl : y.cps.toList = x.cps.toList.filter (fun c => decide (c < 127))) (hy7 : y.length ≤ 7)
  (hp : 0 ≤ place) (hp2 : place ≤ 75000) (hs : 0 ≤ seed) (hs2 : seed ≤ 1000) (hi : IntsAre vs ns) (hl : ns.length ≤ 1000) (hoc : o1.data = .cell (some (.ref S))) (hLA : @LT.lt Nat _ (L + 1) A) (hAS : @LT.lt Nat _ A S) (h96 : @LT.lt Nat _ 96 L) (h113 : @LT.lt Nat _ 113 L)
  (L9 : LamAt "build_quoted_string" oc9) (L8 : LamAt "parse_quoted_string" oc8) (hS9 : @LT.lt Nat _ S c9) (h98 : @LT.lt Nat _ c9 c8)
  (B : Below callerA h₀ [] h₀) (F : Fr h₀ L s.heap (fun z => if z = "due" then some (.str (bqOut y) td) else if z = "quoted" then some (.str (bqOut y) tz) else if z = "plain" then some (.str y ty) else if z = "text" then some (.str x tx) else m z)) (X : (hd.heap_39 w.params).In h₀)
  (N : News h₀ L s.heap ((L + 1, o1) :: (S, stO A place tq seed ts n) :: (A, listOf vs.toArray na) :: (c8, oc8) :: (96, tabObj #[rawInt 31, rawInt 28, .ref c8]) :: (c9, oc9) :: (113, tabObj #[rawInt 38, rawInt 31, .ref c9]) :: [])) (T : Top p loose mean mg mb h₀)
  (hE : PassesOwn (model prog w) (callerA.deeper (lawEnv L fa cd)) (lawEnv L fa cd) E)
  (hret : ∀ (h' : Heap) (tk' : Nat) (ps qs : Array Value), (∀ b o, h₀.get? b = some o → h'.get? b = some o) → h'.get? 96 = some (tabObj ps) → h'.get? 113 = some (tabObj qs) → Q (.ret (.bool true)) { s with heap := h', toks := tk' }) :
  wpAny (model prog w) (callerA.deeper (lawEnv L fa cd)) (execs (lawFn.body.drop 12) (lawEnv L fa cd)) Q E s := by
  have hyc : ∀ c ∈ y.cps.toList, c ∈ txtCodes ∧ c < 127 := fun c hc => by
    rw [hpl] at hc
    obtain ⟨h1, h2⟩ := List.mem_filter.mp hc
    exact ⟨hxs c h1, of_decide_eq_true h2⟩
  have hfine := fine_txt hyc
  have hsm : Small y := small_lt (fun c hc => Nat.lt_trans (hyc c hc).2 (by decide))
  have hqx : AllQp x := qp_all (qp_txt hxs)
  have hyq := qp_txt (fun c hc => (hyc c hc).1)
  have hqy : AllQp y := qp_all hyq
  have hb := esc_len2 y.cps.toList
  have hb2 := bq_length y
  rw [← len_list] at hb
  have hbl : (bqOut y).length ≤ 16 := by omega
  have hb0 : 2 ≤ (bqOut y).length := by omega
  clear hb hb2
  have hn1 : ¬ AllQp (y ++ Str.ofString "\n") := not_nl hyq
  have hn2 : ¬ AllQp (Str.ofString "\x7f" ++ y) := not_del y
  have e1 : (y ++ Str.ofString "\n").length ≤ 100 := by
    rw [len_app]
    have : (Str.ofString "\n").length = 1 := by decide +kernel
    omega
  have e2 : (Str.ofString "\x7f" ++ y).length ≤ 100 := by
    rw [len_app]
    have : (Str.ofString "\x7f").length = 1 := by decide +kernel
    omega
  have e3 := due_eq x
  unfold lawEnv lawFn getFn
  dsimp only [List.drop]
  clear hxs hpl hyc hyq hfine hsm hqy hb0
  k_steps
  rename Fr _ _ _ _ => kF
  rename News _ _ _ _ => kN
  refine Hold.mk ⟨_, _, _, _, rfl, by omega, kF, kN, fun C c u s₂ m₂ E' hn hm => ?_, fun D ys h' tk F9 N9 hL hc => ?_⟩
  · have hc1 : (⟨#[c]⟩ : Str).length = 1 := rfl
    k_steps
    all_goals first
      | exact carr_no (by assumption)
      | exact carr_yes (by assumption)
      | exact ⟨_, _, rfl, fun _ _ e => e⟩
  · have k2 : ∀ z ∈ x.cps.toList.map escS, z.length ≤ 2 := fun z hz => by
      obtain ⟨c, _, rfl⟩ := List.mem_map.mp hz
      exact escS_len c
    have k3 : (x.cps.toList.map escS).length ≤ 1000 := by rw [List.length_map, ← len_list]; omega
    have hc' : CarriedAll ys ((x.cps.toList.map escS).map PyData.str) := by rw [List.map_map]; exact hc
    k_steps
    refine Hold.mk (join_C (B := 2) hL hc' k2 k3 (by decide +kernel) (fun t' tk => ?_))
    clear k2 k3 hc hc' hL
    have hb := esc_len2 x.cps.toList
    have hb2 := bq_length x
    rw [← len_list] at hb
    have hjl : (Txt.join (Str.ofString "") (x.cps.toList.map escS)).length + 2 = (bqOut x).length := by
      rw [e3, len_app, len_app]
      have : (Str.ofString "\"").length = 1 := by decide +kernel
      omega
    generalize Txt.join (Str.ofString "") (x.cps.toList.map escS) = dj at e3 hjl ⊢
    have hdl : dj.length ≤ 14 := by omega
    clear hb hb2 hjl
    k_steps
    rename Fr _ _ _ _ => kF2
    rename News _ _ _ _ => kN2
    refine Hold.mk (seg13 (rest := (A, listOf vs.toArray na) :: (c8, oc8) :: (96, tabObj #[rawInt 31, rawInt 28, .ref c8]) :: (c9, oc9) :: (113, tabObj #[rawInt 38, rawInt 31, .ref c9]) :: []) hpp hp (by omega) hs hs2 (List.mem_cons_self ..) ?_ hi hl hoc ?_ B kF2 X kN2 T hE (fun h' tk' m' pl tp F' N' => hret h' tk' _ _ F'.keep (N' (96, tabObj #[rawInt 31, rawInt 28, .ref c8]) (by kcf_m)).1 (N' (113, tabObj #[rawInt 38, rawInt 31, .ref c9]) (by kcf_m)).1))
    · k_all
    · k_ne
end
end
theorem fresh37 : True := by
  w_top off
  trivial
section
theorem seg10_news {h₀ h : Heap} {L : Addr} {a b c d e1 e2 e3 e4 e5 e6 e7 : Addr × Obj} (N : News h₀ L h (a :: b :: c :: d :: e4 :: e6 :: e1 :: e2 :: e3 :: e5 :: e7 :: [])) : News h₀ L h (e1 :: e2 :: e3 :: e4 :: e5 :: e6 :: e7 :: []) := fun p hp => N p (by
  simp only [List.mem_cons, List.not_mem_nil, or_false] at hp ⊢
  rcases hp with h | h | h | h | h | h | h <;> simp [h])
section
local macro_rules | `(tactic| walk_at "execs cons") => `(tactic| (k_here; (with_reducible show wpAny _ _ (execs (Stmt.If _ _ _ _ :: Stmt.For _ _ _ _ _ :: _) _) _ _ _); refine Hold.out ?_))
local macro_rules | `(tactic| walk_at "call builtin:str.join") => `(tactic| (k_here; refine Hold.out ?_))
local macro_rules | `(tactic| walk_at "compareOp NotEq str str") => `(tactic| (refine ne_str_eq ?he ?_; (case he => first | rfl | assumption)))
local macro_rules | `(tactic| walk_at "compareOp NotEq int int") => `(tactic| refine ne_same ?_)
local macro_rules | `(tactic| walk_at "compareOp NotEq ref ref") => `(tactic| (k_here; k_dflt (refine' ne_tup ?N ?a ?b ?y ?e ?u ?_; (case N => k_asm); (case a => kcf_m); (case b => kcf_m); (case y => assumption); (case e => first | rfl | omega); (case u => ke_room); k_whole)))
local macro_rules | `(tactic| walk_at "eval ListComp") => `(tactic| (k_here; k_dflt (refine comp_signs (fun c => PyData.str (escS c)) (by k_asm) (by rfl) (by decide) (by decide) (by rfl) (by decide) (by rfl) ?_)))
local macro_rules | `(tactic| walk_at "SgSrc") => `(tactic| refine Hold.out ?_)
local macro_rules | `(tactic| walk_at "no such step") => `(tactic| fail "none")
theorem seg10 {prog : Program} {w : World} {p : Program} {loose : List Str} {mean : ExcName → Option Value} {mg mb : Str → Option Value} (hpp : ProgOk prog)
  {fa L : Addr} {cd : Value} {h₀ : Heap} {m : Str → Option Value} {s : Shared} {Q : Flow → Shared → Prop} {E : Value → Shared → Prop}
  {S A : Addr} {place seed : Int} {tq ts : Tok} {n : Nat} {vs : List Value} {ns : List Int} {na : Nat} {o1 : Obj} {x y : Str} {tx ty td tz : Tok} {c9 : Addr} {oc9 : Obj}
  (hxs : ∀ c ∈ x.cps.toList, c ∈ txtCodes) (hx7 : x.length ≤ 7) (hpl : y.cps.toList = x.cps.toList.filter (fun c => decide (c < 127))) (hy7 : y.length ≤ 7)
  (hp : 0 ≤ place) (hp2 : place ≤ 75000) (hs : 0 ≤ seed) (hs2 : seed ≤ 1000) (hi : IntsAre vs ns) (hl : ns.length ≤ 1000) (hoc : o1.data = .cell (some (.ref S))) (hLA : @LT.lt Nat _ (L + 1) A) (hAS : @LT.lt Nat _ A S) (h96 : @LT.lt Nat _ 96 L) (h113 : @LT.lt Nat _ 113 L)
  (L9 : LamAt "build_quoted_string" oc9) (hS9 : @LT.lt Nat _ S c9)
  (B : Below callerA h₀ [] h₀) (F : Fr h₀ L s.heap (fun z => if z = "due" then some (.str (bqOut y) td) else if z = "quoted" then some (.str (bqOut y) tz) else if z = "plain" then some (.str y ty) else if z = "text" then some (.str x tx) else m z)) (X : (hd.heap_39 w.params).In h₀)
  (N : News h₀ L s.heap ((c9, oc9) :: (L + 1, o1) :: (S, stO A place tq seed ts n) :: (A, listOf vs.toArray na) :: (96, tabObj #[]) :: (113, tabObj #[rawInt 38, rawInt 31, .ref c9]) :: [])) (T : Top p loose mean mg mb h₀)
  (hE : PassesOwn (model prog w) (callerA.deeper (lawEnv L fa cd)) (lawEnv L fa cd) E)
  (hret : ∀ (h' : Heap) (tk' : Nat) (ps qs : Array Value), (∀ b o, h₀.get? b = some o → h'.get? b = some o) → h'.get? 96 = some (tabObj ps) → h'.get? 113 = some (tabObj qs) → Q (.ret (.bool true)) { s with heap := h', toks := tk' }) :
  wpAny (model prog w) (callerA.deeper (lawEnv L fa cd)) (execs (lawFn.body.drop 10) (lawEnv L fa cd)) Q E s := by
  have hyc : ∀ c ∈ y.cps.toList, c ∈ txtCodes ∧ c < 127 := fun c hc => by
    rw [hpl] at hc
    obtain ⟨h1, h2⟩ := List.mem_filter.mp hc
    exact ⟨hxs c h1, of_decide_eq_true h2⟩
  have hfine := fine_txt hyc
  have hsm : Small y := small_lt (fun c hc => Nat.lt_trans (hyc c hc).2 (by decide))
  have hqx : AllQp x := qp_all (qp_txt hxs)
  have hyq := qp_txt (fun c hc => (hyc c hc).1)
  have hqy : AllQp y := qp_all hyq
  have hb := esc_len2 y.cps.toList
  have hb2 := bq_length y
  rw [← len_list] at hb
  have hbl : (bqOut y).length ≤ 16 := by omega
  have hb0 : 2 ≤ (bqOut y).length := by omega
  clear hb hb2
  obtain ⟨f0, g0⟩ := back_0 hfine
  obtain ⟨f2, g2⟩ := back_2 hfine
  have f4 := not_1 y
  have e2 : (Str.ofString "ab" ++ bqOut y ++ Str.ofString "c").length ≤ 100 ∧ 2 ≤ (Str.ofString "ab" ++ bqOut y ++ Str.ofString "c").length := by
    rw [len_app, len_app]
    have : (Str.ofString "ab").length = 2 := by decide +kernel
    have : (Str.ofString "c").length = 1 := by decide +kernel
    omega
  obtain ⟨e2a, e2b⟩ := e2
  have e4 : (Str.ofString "a" ++ bqOut y).length ≤ 100 := by
    rw [len_app]
    have : (Str.ofString "a").length = 1 := by decide +kernel
    omega
  unfold lawEnv lawFn getFn
  dsimp only [List.drop]
  clear hyc hyq hqx hqy
  have hcut := fun z : Str => not_cut (y := y) (z := z) hfine
  generalize hq : bqOut y = q at *
  have e5 : ((q.length : Int) - 1) = ((q.length - 1 : Nat) : Int) := by omega
  have hs3 : Txt.slice q none (some ((q.length : Int) - 1)) = ⟨q.cps.extract 0 (q.length - 1)⟩ := by rw [e5]; exact slice_to (by omega)
  have f3 := hcut (Txt.slice q none (some ((q.length : Int) - 1))) (by
    rw [hs3]
    show (q.cps.extract 0 (q.length - 1)).toList = _
    rw [Array.toList_extract, List.extract_eq_take_drop, List.drop_zero, Nat.sub_zero])
  clear hcut e5 hs3
  k_steps
  rename Fr _ _ _ _ => kF
  rename News _ _ _ _ => kN
  rename LamAt "parse_quoted_string" _ => L8
  rename (@LT.lt Nat _ c9 _ ∧ _) => lc9
  subst hq
  exact Hold.mk (seg12 hpp hxs hx7 hpl hy7 hp hp2 hs hs2 hi hl hoc hLA hAS h96 h113 L9 L8 hS9 lc9.1 B kF X (seg10_news kN) T hE hret)
end
end
theorem fresh38 : True := by
  w_top off
  trivial
section
section
local macro_rules | `(tactic| walk_at "call builtin:str.join") => `(tactic| (k_here; refine Hold.out ?_))
local macro_rules | `(tactic| walk_at "compareOp NotEq str str") => `(tactic| (refine ne_str_eq ?he ?_; (case he => first | rfl | assumption)))
local macro_rules | `(tactic| walk_at "compareOp NotEq int int") => `(tactic| refine ne_same ?_)
local macro_rules | `(tactic| walk_at "compareOp NotEq ref ref") => `(tactic| (k_here; k_dflt (refine' ne_tup ?N ?a ?b ?y ?e ?u ?_; (case N => k_asm); (case a => kcf_m); (case b => kcf_m); (case y => assumption); (case e => first | rfl | omega); (case u => ke_room); k_whole)))
local macro_rules | `(tactic| walk_at "eval ListComp") => `(tactic| (k_here; k_dflt (refine comp_signs (fun c => PyData.str (escS c)) (by k_asm) (by rfl) (by decide) (by decide) (by rfl) (by decide) (by rfl) ?_)))
local macro_rules | `(tactic| walk_at "SgSrc") => `(tactic| refine Hold.out ?_)
local macro_rules | `(tactic| walk_at "execs cons") => `(tactic| (k_here; (with_reducible show wpAny _ _ (execs (Stmt.If _ _ _ _ :: _) _) _ _ _); refine Hold.out ?_))
local macro_rules | `(tactic| walk_at "no such step") => `(tactic| fail "none")
local macro_rules | `(tactic| walk_at "no such step") => `(tactic| fail "none")
theorem seg8 {prog : Program} {w : World} {p : Program} {loose : List Str} {mean : ExcName → Option Value} {mg mb : Str → Option Value} (hpp : ProgOk prog)
  {fa L : Addr} {cd : Value} {h₀ : Heap} {m : Str → Option Value} {s : Shared} {Q : Flow → Shared → Prop} {E : Value → Shared → Prop}
  {S A : Addr} {place seed : Int} {tq ts : Tok} {n : Nat} {vs : List Value} {ns : List Int} {na : Nat} {o1 : Obj} {x y : Str} {tx ty : Tok}
  (hxs : ∀ c ∈ x.cps.toList, c ∈ txtCodes) (hx7 : x.length ≤ 7) (hpl : y.cps.toList = x.cps.toList.filter (fun c => decide (c < 127))) (hy7 : y.length ≤ 7)
  (hp : 0 ≤ place) (hp2 : place ≤ 75000) (hs : 0 ≤ seed) (hs2 : seed ≤ 1000) (hi : IntsAre vs ns) (hl : ns.length ≤ 1000) (hoc : o1.data = .cell (some (.ref S))) (hLA : @LT.lt Nat _ (L + 1) A) (hAS : @LT.lt Nat _ A S) (h96 : @LT.lt Nat _ 96 L) (h113 : @LT.lt Nat _ 113 L)
  (B : Below callerA h₀ [] h₀) (F : Fr h₀ L s.heap (fun z => if z = "plain" then some (.str y ty) else if z = "text" then some (.str x tx) else m z)) (X : (hd.heap_39 w.params).In h₀) (N : News h₀ L s.heap ((L + 1, o1) :: (S, stO A place tq seed ts n) :: (A, listOf vs.toArray na) :: (96, tabObj #[]) :: (113, tabObj #[]) :: [])) (T : Top p loose mean mg mb h₀)
  (hE : PassesOwn (model prog w) (callerA.deeper (lawEnv L fa cd)) (lawEnv L fa cd) E)
  (hret : ∀ (h' : Heap) (tk' : Nat) (ps qs : Array Value), (∀ b o, h₀.get? b = some o → h'.get? b = some o) → h'.get? 96 = some (tabObj ps) → h'.get? 113 = some (tabObj qs) → Q (.ret (.bool true)) { s with heap := h', toks := tk' }) :
  wpAny (model prog w) (callerA.deeper (lawEnv L fa cd)) (execs (lawFn.body.drop 8) (lawEnv L fa cd)) Q E s := by
  have hyc : ∀ c ∈ y.cps.toList, c ∈ txtCodes ∧ c < 127 := fun c hc => by
    rw [hpl] at hc
    obtain ⟨h1, h2⟩ := List.mem_filter.mp hc
    exact ⟨hxs c h1, of_decide_eq_true h2⟩
  have hfine := fine_txt hyc
  have hsm : Small y := small_lt (fun c hc => Nat.lt_trans (hyc c hc).2 (by decide))
  have hqx : AllQp x := qp_all (qp_txt hxs)
  have hyq := qp_txt (fun c hc => (hyc c hc).1)
  have hqy : AllQp y := qp_all hyq
  have hb := esc_len2 y.cps.toList
  have hb2 := bq_length y
  rw [← len_list] at hb
  have hbl : (bqOut y).length ≤ 16 := by omega
  have hb0 : 2 ≤ (bqOut y).length := by omega
  clear hb hb2
  obtain ⟨f0, g0⟩ := back_0 hfine
  unfold lawEnv lawFn getFn
  dsimp only [List.drop]
  k_steps
  rename Fr _ _ _ _ => kF
  rename News _ _ _ _ => kN
  refine Hold.mk ⟨_, _, _, _, rfl, by omega, kF, kN, fun C c u s₂ m₂ E' hn hm => ?_, fun D ys h' tk F9 N9 hL hc => ?_⟩
  · have hc1 : (⟨#[c]⟩ : Str).length = 1 := rfl
    clear hxs hpl hyc hyq
    k_steps
    all_goals first
      | exact carr_no (by assumption)
      | exact carr_yes (by assumption)
      | exact ⟨_, _, rfl, fun _ _ e => e⟩
  · have k2 : ∀ z ∈ y.cps.toList.map escS, z.length ≤ 2 := fun z hz => by
      obtain ⟨c, _, rfl⟩ := List.mem_map.mp hz
      exact escS_len c
    have k3 : (y.cps.toList.map escS).length ≤ 1000 := by rw [List.length_map, ← len_list]; omega
    have hc' : CarriedAll ys ((y.cps.toList.map escS).map PyData.str) := by rw [List.map_map]; exact hc
    k_steps
    refine Hold.mk (join_C (B := 2) hL hc' k2 k3 (by decide +kernel) (fun t' tk => ?_))
    clear k2 k3 hc hc' hL
    have hdue := due_eq y
    have hjl : (Txt.join (Str.ofString "") (y.cps.toList.map escS)).length + 2 = (bqOut y).length := by
      rw [hdue, len_app, len_app]
      have : (Str.ofString "\"").length = 1 := by decide +kernel
      omega
    generalize Txt.join (Str.ofString "") (y.cps.toList.map escS) = dj at hdue hjl ⊢
    k_steps
    rename Fr _ _ _ _ => kF
    rename News _ _ _ _ => kN
    rename LamAt "build_quoted_string" _ => L9
    rename (@LT.lt Nat _ (L + 1) _ ∧ _) => l9
    rw [← hdue] at kF
    exact Hold.mk (seg10 hpp hxs hx7 hpl hy7 hp hp2 hs hs2 hi hl hoc hLA hAS h96 h113 L9 l9.2.1 B kF X kN T hE hret)
end
end
theorem fresh39 : True := by
  w_top off
  trivial
section
section
local macro_rules | `(tactic| walk_at "call builtin:str.join") => `(tactic| (k_here; refine Hold.out ?_))
local macro_rules | `(tactic| walk_at "subscriptTail") => `(tactic| (k_here; (with_reducible show wpAny _ _ (subscriptTail _ _ (Value.ref _) (Value.int _ _)) _ _ _); k_dflt (refine' sub_M3 ?N ?m ?yS ?y0 ?y1 ?y2 ?yB ?_ ?hs; (case N => k_asm); (case m => first | assumption | kcf_m); (case yS => (repeat (first | exact PyProof.Rows.StrsAre.nil | apply PyProof.Rows.StrsAre.cons))); (case y0 => first | assumption | omega); (case y1 => first | omega | (simp only [List.length_cons, List.length_nil]; omega)); (case y2 => first | omega | (simp only [List.length_cons, List.length_nil]; omega)); (case yB => decide +kernel); (case hs => with_unfolding_all rfl); k_whole); intro y9 t9 e9 b9; (try k_sweep)))
local macro_rules | `(tactic| walk_at "CompSrc") => `(tactic| refine Hold.out ?_)
local macro_rules | `(tactic| walk_at "execs cons") => `(tactic| (k_here; (with_reducible show wpAny _ _ (execs (Stmt.Assign [Expr.Name (PySem.Str.ofString "quoted") _] _ _ :: _) _) _ _ _); refine Hold.out ?_))
local macro_rules | `(tactic| walk_at "CompEnd") => `(tactic| refine Hold.out ?_)
theorem seg6 {prog : Program} {w : World} {p : Program} {loose : List Str} {mean : ExcName → Option Value} {mg mb : Str → Option Value} (hpp : ProgOk prog)
  {fa L : Addr} {cd : Value} {h₀ : Heap} {m : Str → Option Value} {s : Shared} {Q : Flow → Shared → Prop} {E : Value → Shared → Prop}
  {S A : Addr} {place seed : Int} {tq ts : Tok} {n : Nat} {vs : List Value} {ns : List Int} {na : Nat} {o1 : Obj}
  (hp : 0 ≤ place) (hp2 : place ≤ 70000) (hs : 0 ≤ seed) (hs2 : seed ≤ 1000) (hi : IntsAre vs ns) (hl : ns.length ≤ 1000) (hoc : o1.data = .cell (some (.ref S))) (hLA : @LT.lt Nat _ (L + 1) A) (hAS : @LT.lt Nat _ A S) (h96 : @LT.lt Nat _ 96 L) (h113 : @LT.lt Nat _ 113 L)
  (B : Below callerA h₀ [] h₀) (F : Fr h₀ L s.heap m) (X : (hd.heap_39 w.params).In h₀) (N : News h₀ L s.heap ((L + 1, o1) :: (S, stO A place tq seed ts n) :: (A, listOf vs.toArray na) :: (96, tabObj #[]) :: (113, tabObj #[]) :: [])) (T : Top p loose mean mg mb h₀)
  (hE : PassesOwn (model prog w) (callerA.deeper (lawEnv L fa cd)) (lawEnv L fa cd) E)
  (hret : ∀ (h' : Heap) (tk' : Nat) (ps qs : Array Value), (∀ b o, h₀.get? b = some o → h'.get? b = some o) → h'.get? 96 = some (tabObj ps) → h'.get? 113 = some (tabObj qs) → Q (.ret (.bool true)) { s with heap := h', toks := tk' }) :
  wpAny (model prog w) (callerA.deeper (lawEnv L fa cd)) (execs (lawFn.body.drop 6) (lawEnv L fa cd)) Q E s := by
  unfold lawEnv lawFn getFn
  dsimp only [List.drop]
  have hASn : A ≠ S := Nat.ne_of_lt hAS
  k_steps
  rename Fr _ _ _ _ => kF2
  rename News _ _ _ _ => kN2
  rename IsRange _ _ _ _ _ _ _ _ => kR2
  rename (0 : Int) ≤ _ => r0
  rename (_ : Int) < 8 => r1
  refine Hold.mk (LCg.CompSrc.range (by rfl) kF2 kN2 kR2 (small_one (by omega) (by omega) (by omega) (by omega)) (rangeSize_nat _ _) (by rw [PySem.sizeLine_eq]; omega) ?_)
  intro g9
  refine comp_inv (fun j ys nw => ∃ (pl2 : Int) (tq2 : Tok) (ws : List Str), nw = (L + 1, o1) :: (S, stO A pl2 tq2 seed ts n) :: (A, listOf vs.toArray na) :: (96, tabObj #[]) :: (113, tabObj #[]) :: [] ∧ place ≤ pl2 ∧ pl2 ≤ place + 1 + j ∧ SA ys ws ∧ ws.length = j ∧ ∀ y ∈ ws, y ∈ txtSigns)
    ⟨place + 1, _, [], rfl, by omega, by omega, .nil, rfl, fun _ h => nomatch h⟩ ?_ ?_
  · rintro j v I2 oI C oC D m₂ ys nw h tk E' hlt ⟨pl2, tq2, ws, rfl, h1, h2, hS, hw, hG⟩ hv hC hx F N off ne
    have off2 := off
    simp only [LCg.Off3, and_true] at off
    have ht : (j : Int) < 8 := by omega
    k_steps
    rename Fr _ _ _ _ => kF
    rename News _ _ _ _ => kN
    rename (List.cons _ _)[_]? = some _ => e9
    refine Hold.mk (LCg.CompEnd.intro kF kN ((L + 1, o1) :: (S, stO A (pl2 + 1) _ seed ts n) :: (A, listOf vs.toArray na) :: (96, tabObj #[]) :: (113, tabObj #[]) :: []) (fun p hp => List.mem_cons_of_mem _ hp) off2 True.intro ⟨pl2 + 1, _, ws ++ [_], rfl, by omega, by omega, sa_snoc hS, by rw [List.length_append, List.length_singleton, hw], fun y hy => ?_⟩)
    rcases List.mem_append.mp hy with hy | hy
    · exact hG y hy
    · rw [List.mem_singleton.mp hy]; exact List.mem_of_getElem? e9
  · rintro ys nw ⟨pl2, tq2, ws, rfl, h1, h2, hS, hw, hG⟩
    have b2 : pl2 ≤ place + 10 := by omega
    clear h2
    k_steps
    rename News _ _ _ _ => kN
    have k1 : ∀ y ∈ txtSigns, y.length = 1 := by decide +kernel
    refine Hold.mk (join_N (B := 1) kN (List.mem_cons_self ..) hS (fun y hy => Nat.le_of_eq (k1 y (hG y hy))) (by omega) (by decide +kernel) (fun t' tk => ?_))
    obtain ⟨hxl, hxs⟩ := txt_join hG
    generalize Txt.join (Str.ofString "") ws = x at hxl hxs ⊢
    have hx7 : x.length ≤ 7 := by omega
    clear hG hS hw k1 kN2 kF2 kR2 hxl r0 r1
    k_steps
    rename CarriedAll _ _ => hc
    rename Heap.IsList _ _ _ => hL
    have k2 : ∀ y ∈ (signs x).filter (fun a => decide (a.cps.toList < (Str.ofString "\x7f").cps.toList)), y.length ≤ 1 := fun y hy => Nat.le_of_eq (sign_length_one x y (List.mem_filter.mp hy).1)
    have k3 : ((signs x).filter (fun a => decide (a.cps.toList < (Str.ofString "\x7f").cps.toList))).length ≤ 1000 := Nat.le_trans (List.length_filter_le ..) (by rw [signs_length]; exact Nat.le_trans hx7 (by decide))
    refine Hold.mk (join_C (B := 1) hL hc k2 k3 (by decide +kernel) (fun t' tk => ?_))
    have hpl := plain_join x
    generalize Txt.join (Str.ofString "") ((signs x).filter (fun a => decide (a.cps.toList < (Str.ofString "\x7f").cps.toList))) = y at hpl ⊢
    clear k2 k3
    have hy7 : y.length ≤ 7 := by
      rw [len_list, hpl]
      exact Nat.le_trans (List.length_filter_le ..) (by rw [← len_list]; exact hx7)
    clear hc hL
    k_steps
    rename Fr _ _ _ _ => kF
    rename News _ _ _ _ => kN
    exact Hold.mk (seg8 hpp hxs hx7 hpl hy7 (by omega) (by omega) hs hs2 hi hl hoc hLA hAS h96 h113 B kF X (fun p hp => kN p (List.mem_cons_of_mem _ hp)) T hE hret)
end
end
theorem fresh40 : True := by
  w_top off
  trivial
section
def PairOk (y : Str) : Prop := WordOk y ∨ ∃ u v, WordOk u ∧ WordOk v ∧ y = u ++ Str.ofString "/" ++ v
theorem len_slash : (Str.ofString "/").length = 1 := by decide +kernel
theorem WordOk.pos {y : Str} (h : WordOk y) : 0 < y.cps.toList.length := by rw [← len_list]; exact h.1
theorem WordOk.small {y : Str} (h : WordOk y) : Small y := fun c hc => by
  have hm := h.2.2 c hc
  unfold isMark csHas at hm
  simp only [Bool.and_eq_true, decide_eq_true_eq] at hm
  omega
theorem PairOk.len {y : Str} (h : PairOk y) : y.length ≤ 7 := by
  rcases h with h | ⟨u, v, hu, hv, rfl⟩
  · exact Nat.le_trans h.2.1 (by decide)
  · rw [len_app, len_app, len_slash]
    have := hu.2.1
    have := hv.2.1
    omega
theorem PairOk.small {y : Str} (h : PairOk y) : Small y := by
  rcases h with h | ⟨u, v, hu, hv, rfl⟩
  · exact h.small
  · intro c hc
    rw [cps_app, cps_app] at hc
    rcases List.mem_append.mp hc with hc | hc
    · rcases List.mem_append.mp hc with hc | hc
      · exact hu.small c hc
      · have e : (Str.ofString "/").cps.toList = [47] := by decide +kernel
        rw [e] at hc
        rw [List.mem_singleton.mp hc]; decide
    · exact hv.small c hc
theorem WordOk.item {y x : Str} (h : WordOk y) : IsItem (wEnd x) x y.cps.toList := item_w h.pos h.2.2
theorem PairOk.item {y x : Str} (h : PairOk y) : IsItem (uEnd x) x y.cps.toList := by
  rcases h with h | ⟨u, v, hu, hv, rfl⟩
  · exact item_u h.pos h.2.2
  · have e : (u ++ Str.ofString "/" ++ v).cps.toList = u.cps.toList ++ 47 :: v.cps.toList := by
      rw [cps_app, cps_app]
      have e : (Str.ofString "/").cps.toList = [47] := by decide +kernel
      rw [e]; simp
    rw [e]
    exact item_uu hu.pos hu.2.2 hv.pos hv.2.2
theorem laid_w {ws : List Str} {x : Str} (h : Laid ws x) (hw : ∀ y ∈ ws, WordOk y) : readR (wEnd x) x = .ok ws := h.reads (fun y hy => (hw y hy).item)
theorem laid_u {ws : List Str} {x : Str} (h : Laid ws x) (hw : ∀ y ∈ ws, PairOk y) : readR (uEnd x) x = .ok ws := h.reads (fun y hy => (hw y hy).item)
theorem join_comma : ∀ (w : Str) (r : List Str), (Txt.join (Str.ofString ", ") (w :: r)).cps.toList = w.cps.toList ++ r.flatMap fun y => 44 :: 32 :: y.cps.toList := by
  intro w r
  show (Builtin.Str.glued (Str.ofString ", ") (w :: r)).cps.toList = _
  rw [StrLaws.glued_eq_join]
  have e : (Str.ofString ", ").cps.toList = [44, 32] := by decide +kernel
  induction r generalizing w with
  | nil => simp [Str.join]
  | cons b r ih =>
    show (w ++ Str.ofString ", " ++ Str.join (Str.ofString ", ") (b :: r) : Str).cps.toList = _
    rw [cps_app, cps_app, e, ih b, List.flatMap_cons]
    simp
theorem join_laid (w : Str) (r : List Str) : Laid (w :: r) (Txt.join (Str.ofString ", ") (w :: r)) := by
  refine ⟨[], [], w.cps.toList, [], r.map (fun y => ([32], y.cps.toList, [])), Commas.nil, Commas.nil, ?_, (fun _ h => nomatch h), fun p hp => ?_, ?_⟩
  · rw [join_comma, List.flatMap_map]
    simp [lay]
  · obtain ⟨y, _, rfl⟩ := List.mem_map.mp hp
    exact ⟨(by decide : ∀ c ∈ [32], isBlank c = true), fun _ h => nomatch h⟩
  · rw [List.map_map]
    congr 1
    exact (List.map_id r).symm
theorem join_reads {ws : List Str} (h0 : 0 < ws.length) (h4 : ws.length ≤ 4) (hw : ∀ y ∈ ws, WordOk y) : readR (wEnd (Txt.join (Str.ofString ", ") ws)) (Txt.join (Str.ofString ", ") ws) = .ok ws ∧ (Txt.join (Str.ofString ", ") ws).length ≤ 1000 := by
  cases ws with
  | nil => cases h0
  | cons w r =>
    refine ⟨laid_w (join_laid w r) hw, ?_⟩
    have h1 := StrLaws.join_length_le (Str.ofString ", ") (w :: r)
    have h2 := StrLaws.sumLen_le (w :: r) (fun y hy => (hw y hy).2.1)
    have h3 : (Str.ofString ", ").length = 2 := by decide +kernel
    rw [h3] at h1
    have h5 : (w :: r).length * 3 ≤ 12 := by omega
    have h6 : (w :: r).length * 2 ≤ 8 := by omega
    show (Builtin.Str.glued (Str.ofString ", ") (w :: r)).length ≤ _
    rw [StrLaws.glued_eq_join]
    omega
theorem c_psub_ok {prog : Program} {w : World} {p : Program} {loose : List Str} {mean : ExcName → Option Value} {mg mb : Str → Option Value}
  (hpp : ProgOk prog) {x : Str} {tx : Tok} {ws : List Str} (hx : x.length ≤ 1000) (hr : readR (wEnd x) x = .ok ws) :
  Cx prog w p loose mean mg mb 7 [.str x tx] 172 fun h₀ L m news s Q E =>
   (∀ (lA : Addr) (vs : List Value) (n : Nat) (h' : Heap) (tk' : Nat), SA vs ws → Fr h₀ L h' m → News h₀ L h' ((lA, listOf vs.toArray n) :: news) → (∀ p ∈ news, p.1 < lA) → Q (.ref lA) { s with heap := h', toks := tk' }) := by
  intro dp un gd cn cs a ccd cl outer A₀ base h₀ L m news s Q E B F X N T hk hd hu hret
  refine c_psub hpp x tx hx dp un gd cn cs a ccd cl outer A₀ base h₀ L m news s Q E B F X N T hk hd hu ⟨fun lA its n ws' h' tk' hok hS F' N' l => ?_, fun k he => ?_⟩
  · cases hr.symm.trans hok
    exact hret lA its.toList n h' tk' hS.list F' (by rw [Array.toArray_toList]; exact N') l
  · cases hr.symm.trans he
section
local macro_rules | `(tactic| walk_at "execs cons") => `(tactic| (k_here; (with_reducible show wpAny _ _ (execs (Stmt.Assign [Expr.Name (PySem.Str.ofString "text") _] _ _ :: _) _) _ _ _); refine Hold.out ?_))
local macro_rules | `(tactic| walk_at "call ref") => `(tactic| (k_here; (with_reducible show wpAny _ _ (call (Value.ref 280) [Value.ref _, Value.ref _]) _ _ _); k_dflt (refine' Cx.use (c_laid ?y3 ?y4 ?y5 ?y6 ?yU ?yA ?yn ?yi ?yl ?yW ?ym ?yS ?z0 ?z4 ?z7) ?B ?F ?X ?N ?T ?hk ?hd ?hu (And.intro rfl ?_); (case N => k_asm); (case yU => first | assumption | k_updF); (case yA => first | assumption | kcf_m); (case yn => first | assumption | k_ne); (case yi => assumption); (case yl => assumption); (case yW => first | assumption | kcf_m); (case ym => first | assumption | k_ne); (case yS => assumption); (case z0 => first | assumption | omega); (case z4 => first | assumption | omega); (case z7 => assumption); (case y3 => first | assumption | omega); (case y4 => first | assumption | omega); (case y5 => assumption); (case y6 => assumption); (case B => k_asm); (case F => k_asm); (case X => k_asm); (case T => k_asm); (case hk => first | exact rfl | assumption); (case hd => ktr_room); (case hu => ktr_units)); refine (fun x9 t9 tp9 pl9 h9 tk9 w9 wl9 p1 p2 F9 N9 => ?_); (try dsimp only at N9); (first | (have rd9 := laid_w w9 (by assumption)) | (have rd9 := laid_u w9 (by assumption))); (try k_sweep); (try dsimp only)))
local macro_rules | `(tactic| walk_at "call ref") => `(tactic| (k_here; (with_reducible show wpAny _ _ (call (Value.ref 172) [_]) _ _ _); k_dflt (refine' Cx.use (c_psub_ok ?pp ?g ?r) ?B ?F ?X ?N ?T ?hk ?hd ?hu ?_; (case N => k_asm); (case pp => assumption); (case g => first | assumption | omega); (case r => assumption); (case B => k_asm); (case F => k_asm); (case X => k_asm); (case T => k_asm); (case hk => first | exact rfl | assumption); (case hd => ktr_room); (case hu => ktr_units)); refine (fun lA9 vs9 n9 h9 tk9 S9 F9 N9 l9 => ?_); (try k_lt l9); (try k_sweep); (try dsimp only)))
theorem seg3 {prog : Program} {w : World} {p : Program} {loose : List Str} {mean : ExcName → Option Value} {mg mb : Str → Option Value} (hpp : ProgOk prog)
  {fa L : Addr} {cd : Value} {h₀ : Heap} {m : Str → Option Value} {s : Shared} {Q : Flow → Shared → Prop} {E : Value → Shared → Prop}
  {S A W V : Addr} {place seed : Int} {tq ts : Tok} {n nW nV : Nat} {vs ww pp : List Value} {ns : List Int} {na : Nat} {o1 : Obj} {ws ps : List Str}
  (hww : SA ww ws) (hwo : ∀ y ∈ ws, WordOk y) (hw0 : 0 < ws.length) (hw4 : ws.length ≤ 4) (hpv : SA pp ps) (hpo : ∀ y ∈ ps, PairOk y) (hp0 : 0 < ps.length) (hp4 : ps.length ≤ 4)
  (hp : 0 ≤ place) (hp2 : place ≤ 60000) (hs : 0 ≤ seed) (hs2 : seed ≤ 1000) (hi : IntsAre vs ns) (hl : ns.length ≤ 1000) (hoc : o1.data = .cell (some (.ref S))) (hLA : @LT.lt Nat _ (L + 1) A) (hAS : @LT.lt Nat _ A S) (h96 : @LT.lt Nat _ 96 L) (h113 : @LT.lt Nat _ 113 L) (hSW : @Ne Nat W S) (hSV : @Ne Nat V S)
  (B : Below callerA h₀ [] h₀) (F : Fr h₀ L s.heap (fun z => if z = "pairs" then some (.ref V) else if z = "words" then some (.ref W) else m z)) (X : (hd.heap_39 w.params).In h₀)
  (N : News h₀ L s.heap ((V, listOf pp.toArray nV) :: (W, listOf ww.toArray nW) :: (L + 1, o1) :: (S, stO A place tq seed ts n) :: (A, listOf vs.toArray na) :: (96, tabObj #[]) :: (113, tabObj #[]) :: [])) (T : Top p loose mean mg mb h₀)
  (hE : PassesOwn (model prog w) (callerA.deeper (lawEnv L fa cd)) (lawEnv L fa cd) E)
  (hret : ∀ (h' : Heap) (tk' : Nat) (ps qs : Array Value), (∀ b o, h₀.get? b = some o → h'.get? b = some o) → h'.get? 96 = some (tabObj ps) → h'.get? 113 = some (tabObj qs) → Q (.ret (.bool true)) { s with heap := h', toks := tk' }) :
  wpAny (model prog w) (callerA.deeper (lawEnv L fa cd)) (execs (lawFn.body.drop 3) (lawEnv L fa cd)) Q E s := by
  have hASn : A ≠ S := Nat.ne_of_lt hAS
  have hw7 : ∀ y ∈ ws, y.length ≤ 7 := fun y hy => Nat.le_trans (hwo y hy).2.1 (by decide)
  have hp7 : ∀ y ∈ ps, y.length ≤ 7 := fun y hy => (hpo y hy).len
  have hws : ∀ y ∈ ws, Small y := fun y hy => (hwo y hy).small
  have hps : ∀ y ∈ ps, Small y := fun y hy => (hpo y hy).small
  obtain ⟨j1, j2⟩ := join_reads hw0 hw4 hwo
  unfold lawEnv lawFn getFn
  dsimp only [List.drop]
  k_steps
  rename Fr _ _ _ _ => kF
  rename News _ _ _ _ => kN
  exact Hold.mk (seg6 hpp (by omega) (by omega) hs hs2 hi hl hoc hLA hAS h96 h113 B kF X (fun p hp => kN p (List.mem_cons_of_mem _ (List.mem_cons_of_mem _ (List.mem_cons_of_mem _ (List.mem_cons_of_mem _ (List.mem_cons_of_mem _ (List.mem_cons_of_mem _ hp))))))) T hE hret)
end
end
theorem fresh41 : True := by
  w_top off
  trivial
section
section
local macro_rules | `(tactic| walk_at "execs cons") => `(tactic| (k_here; (with_reducible show wpAny _ _ (execs (Stmt.If _ _ _ _ :: _) _) _ _ _); refine Hold.out ?_))
local macro_rules | `(tactic| walk_at "CompSrc") => `(tactic| refine Hold.out ?_)
local macro_rules | `(tactic| walk_at "CompEnd") => `(tactic| refine Hold.out ?_)
local macro_rules | `(tactic| walk_at "exec Assign cons ListComp") => `(tactic| (k_here; k_dflt (refine LCg.Assign_ListComp_U (F₀ := by k_asm) (by rfl) (by with_unfolding_all rfl) (by with_unfolding_all rfl) (by decide) (by rfl) (by decide) (by rfl) (by rfl) (by rfl) ?_)))
local macro_rules | `(tactic| walk_at "call ref") => `(tactic| (k_here; (with_reducible show wpAny _ _ (call (Value.ref 191) [Value.ref _]) _ _ _); k_dflt (refine' Cx.use (c_state _ _ _ ?yi ?yl) ?B ?F ?X ?N ?T ?hk ?hd ?hu (And.intro ?hL ?_); (case N => k_asm); (case hL => assumption); (case yi => assumption); (case yl => first | assumption | omega); (case B => k_asm); (case F => k_asm); (case X => k_asm); (case T => k_asm); (case hk => first | exact rfl | assumption); (case hd => ktr_room); (case hu => ktr_units)); refine (fun S9 A9 seed9 tp9 ts9 vs9 ns9 n9 na9 h9 tk9 sd0 sd1 I9 nl9 F9 N9 lA9 lS9 => ?_); (try simp only [AllLt, and_true] at lA9 lS9); (try k_sweep); (try dsimp only)))
local macro_rules | `(tactic| walk_at "call ref") => `(tactic| (k_here; (with_reducible show wpAny _ _ (call (Value.ref 273) [Value.ref _]) _ _ _); refine Hold.out ?_))
theorem seg2 {prog : Program} {w : World} {p : Program} {loose : List Str} {mean : ExcName → Option Value} {mg mb : Str → Option Value} (hpp : ProgOk prog)
  {fa L : Addr} {cd : Value} {h₀ : Heap} {m : Str → Option Value} {s : Shared} {Q : Flow → Shared → Prop} {E : Value → Shared → Prop}
  {S A W : Addr} {place seed : Int} {tq ts : Tok} {n nW : Nat} {vs ww : List Value} {ns : List Int} {na : Nat} {o1 : Obj} {ws : List Str}
  (hww : SA ww ws) (hwo : ∀ y ∈ ws, WordOk y) (hw0 : 0 < ws.length) (hw4 : ws.length ≤ 4)
  (hp : 0 ≤ place) (hp2 : place ≤ 55000) (hs : 0 ≤ seed) (hs2 : seed ≤ 1000) (hi : IntsAre vs ns) (hl : ns.length ≤ 1000) (hoc : o1.data = .cell (some (.ref S))) (hLA : @LT.lt Nat _ (L + 1) A) (hAS : @LT.lt Nat _ A S) (h96 : @LT.lt Nat _ 96 L) (h113 : @LT.lt Nat _ 113 L) (hSW : @Ne Nat W S)
  (B : Below callerA h₀ [] h₀) (F : Fr h₀ L s.heap (fun z => if z = "words" then some (.ref W) else m z)) (X : (hd.heap_39 w.params).In h₀)
  (N : News h₀ L s.heap ((W, listOf ww.toArray nW) :: (L + 1, o1) :: (S, stO A place tq seed ts n) :: (A, listOf vs.toArray na) :: (96, tabObj #[]) :: (113, tabObj #[]) :: [])) (T : Top p loose mean mg mb h₀)
  (hE : PassesOwn (model prog w) (callerA.deeper (lawEnv L fa cd)) (lawEnv L fa cd) E)
  (hret : ∀ (h' : Heap) (tk' : Nat) (ps qs : Array Value), (∀ b o, h₀.get? b = some o → h'.get? b = some o) → h'.get? 96 = some (tabObj ps) → h'.get? 113 = some (tabObj qs) → Q (.ret (.bool true)) { s with heap := h', toks := tk' }) :
  wpAny (model prog w) (callerA.deeper (lawEnv L fa cd)) (execs (lawFn.body.drop 2) (lawEnv L fa cd)) Q E s := by
  have hASn : A ≠ S := Nat.ne_of_lt hAS
  unfold lawEnv lawFn getFn
  dsimp only [List.drop]
  k_steps
  rename Fr _ _ _ _ => kF2
  rename News _ _ _ _ => kN2
  have hsz : ww.toArray.size = ws.length := by rw [List.size_toArray]; exact hww.len_eq
  refine Hold.mk (LCg.CompSrc.ledger (k := nW) (its := ww.toArray) (by rfl) kF2 kN2 (List.mem_cons_self ..) (by rw [hsz, PySem.sizeLine_eq]; omega) ?_)
  intro g9
  refine comp_inv (fun j ys nw => ∃ (pl2 : Int) (tq2 : Tok) (ps : List Str), nw = (W, listOf ww.toArray nW) :: (L + 1, o1) :: (S, stO A pl2 tq2 seed ts n) :: (A, listOf vs.toArray na) :: (96, tabObj #[]) :: (113, tabObj #[]) :: [] ∧ place ≤ pl2 ∧ pl2 ≤ place + 5 * j ∧ SA ys ps ∧ ps.length = j ∧ ∀ y ∈ ps, PairOk y)
    ⟨place, _, [], rfl, by omega, by omega, .nil, rfl, fun _ h => nomatch h⟩ ?_ ?_
  · rintro j v I2 oI C oC D m₂ ys nw h tk E' hlt ⟨pl2, tq2, ps, rfl, h1, h2, hS, hw, hG⟩ hv hC hx F N off ne
    have off2 := off
    simp only [LCg.Off3, and_true] at off
    have ht : (j : Int) < 4 := by rw [hsz] at hlt; omega
    obtain ⟨y, ty, rfl, hy⟩ := PyProof.Rows.StrsAre.item hww j v (by simpa using hv)
    have hyw := hwo y (List.mem_of_getElem? hy)
    have hy3 : y.length ≤ 3 := hyw.2.1
    k_steps
    · refine Hold.mk ?_
      (k_here; (with_reducible show wpAny _ _ (call (Value.ref 273) [Value.ref _]) _ _ _); k_dflt (refine' Cx.use (c_word ?y3 ?y4 ?y5 ?y6 ?yU ?yA ?yn ?yi ?yl) ?B ?F ?X ?N ?T ?hk ?hd ?hu (And.intro rfl ?_); (case N => k_asm); (case yU => first | assumption | k_updF); (case yA => first | assumption | kcf_m); (case yn => first | assumption | k_ne); (case yi => assumption); (case yl => assumption); (case y3 => first | assumption | omega); (case y4 => first | assumption | omega); (case y5 => assumption); (case y6 => assumption); (case B => k_asm); (case F => k_asm); (case X => k_asm); (case T => k_asm); (case hk => first | exact rfl | assumption); (case hd => ktr_room); (case hu => ktr_units)); refine (fun x9 t9 tp9 pl9 h9 tk9 w9 p1 p2 F9 N9 => ?_); (try dsimp only at N9); (have wl9 := w9.2.1); (try k_sweep); (try dsimp only))
      k_steps
      rename Fr _ _ _ _ => kF
      rename News _ _ _ _ => kN
      rename WordOk _ => w9
      rename _ ≤ _ + 4 => q2
      rename _ + 1 ≤ _ => q1
      refine Hold.mk (LCg.CompEnd.intro kF kN ((W, listOf ww.toArray nW) :: (L + 1, o1) :: (S, stO A _ _ seed ts n) :: (A, listOf vs.toArray na) :: (96, tabObj #[]) :: (113, tabObj #[]) :: []) (fun p hp => hp) off2 (.inr ⟨_, List.mem_cons_self .., rfl, _, rfl⟩) ⟨_, _, ps ++ [_], rfl, by omega, by omega, sa_snoc hS, by rw [List.length_append, List.length_singleton, hw], fun z hz => ?_⟩)
      rcases List.mem_append.mp hz with hz | hz
      · exact hG z hz
      · rw [List.mem_singleton.mp hz]; exact .inr ⟨_, _, hyw, w9, rfl⟩
    · rename Fr _ _ _ _ => kF
      rename News _ _ _ _ => kN
      refine Hold.mk (LCg.CompEnd.intro kF kN ((W, listOf ww.toArray nW) :: (L + 1, o1) :: (S, stO A _ _ seed ts n) :: (A, listOf vs.toArray na) :: (96, tabObj #[]) :: (113, tabObj #[]) :: []) (fun p hp => hp) off2 (.inr ⟨_, List.mem_cons_self .., rfl, _, rfl⟩) ⟨_, _, ps ++ [_], rfl, by omega, by omega, sa_snoc hS, by rw [List.length_append, List.length_singleton, hw], fun z hz => ?_⟩)
      rcases List.mem_append.mp hz with hz | hz
      · exact hG z hz
      · rw [List.mem_singleton.mp hz]; exact .inl hyw
  · rintro ys nw ⟨pl2, tq2, ps, rfl, h1, h2, hS, hw, hG⟩
    rw [hsz] at hw h2
    k_steps
    rename Fr _ _ _ _ => kF
    rename News _ _ _ _ => kN
    rename (_ ∧ _ ∧ _ ∧ _ ∧ _ ∧ _) => o9
    exact Hold.mk (seg3 hpp hww hwo hw0 hw4 hS hG (by omega) (by omega) (by omega) (by omega) hs hs2 hi hl hoc hLA hAS h96 h113 hSW (Ne.symm o9.2.2.1) B kF X kN T hE hret)
end
end
theorem fresh42 : True := by
  w_top off
  trivial
section
section
local macro_rules | `(tactic| walk_at "execs cons") => `(tactic| (k_here; (with_reducible show wpAny _ _ (execs (Stmt.If _ _ _ _ :: _) _) _ _ _); refine Hold.out ?_))
local macro_rules | `(tactic| walk_at "CompSrc") => `(tactic| refine Hold.out ?_)
local macro_rules | `(tactic| walk_at "CompEnd") => `(tactic| refine Hold.out ?_)
local macro_rules | `(tactic| walk_at "exec Assign cons ListComp") => `(tactic| (k_here; k_dflt (refine LCg.Assign_ListComp_U (F₀ := by k_asm) (by rfl) (by with_unfolding_all rfl) (by with_unfolding_all rfl) (by decide) (by rfl) (by decide) (by rfl) (by rfl) (by rfl) ?_)))
local macro_rules | `(tactic| walk_at "call ref") => `(tactic| (k_here; (with_reducible show wpAny _ _ (call (Value.ref 191) [Value.ref _]) _ _ _); k_dflt (refine' Cx.use (c_state _ _ _ ?yi ?yl) ?B ?F ?X ?N ?T ?hk ?hd ?hu (And.intro ?hL ?_); (case N => k_asm); (case hL => assumption); (case yi => assumption); (case yl => first | assumption | omega); (case B => k_asm); (case F => k_asm); (case X => k_asm); (case T => k_asm); (case hk => first | exact rfl | assumption); (case hd => ktr_room); (case hu => ktr_units)); refine (fun S9 A9 seed9 tp9 ts9 vs9 ns9 n9 na9 h9 tk9 sd0 sd1 I9 nl9 F9 N9 lA9 lS9 => ?_); (try simp only [AllLt, and_true] at lA9 lS9); (try k_sweep); (try dsimp only)))
local macro_rules | `(tactic| walk_at "call ref") => `(tactic| (k_here; (with_reducible show wpAny _ _ (call (Value.ref 273) [Value.ref _]) _ _ _); refine Hold.out ?_))
local macro_rules | `(tactic| walk_at "execs cons") => `(tactic| (k_here; (with_reducible show wpAny _ _ (execs (Stmt.Assign [Expr.Name (PySem.Str.ofString "pairs") _] _ _ :: _) _) _ _ _); refine Hold.out ?_))
local macro_rules | `(tactic| walk_at "no such step") => `(tactic| fail "none")
local macro_rules | `(tactic| walk_at "no such step") => `(tactic| fail "none")
local macro_rules | `(tactic| walk_at "no such step") => `(tactic| fail "none")
theorem seg1 {prog : Program} {w : World} {p : Program} {loose : List Str} {mean : ExcName → Option Value} {mg mb : Str → Option Value} (hpp : ProgOk prog)
  {fa L : Addr} {cd : Value} {h₀ : Heap} {m : Str → Option Value} {s : Shared} {Q : Flow → Shared → Prop} {E : Value → Shared → Prop}
  {S A : Addr} {place seed : Int} {tq ts : Tok} {n : Nat} {vs : List Value} {ns : List Int} {na : Nat} {o1 : Obj}
  (hp : 0 ≤ place) (hp2 : place ≤ 50000) (hs : 0 ≤ seed) (hs2 : seed ≤ 1000) (hi : IntsAre vs ns) (hl : ns.length ≤ 1000) (hoc : o1.data = .cell (some (.ref S))) (hLA : @LT.lt Nat _ (L + 1) A) (hAS : @LT.lt Nat _ A S) (h96 : @LT.lt Nat _ 96 L) (h113 : @LT.lt Nat _ 113 L)
  (B : Below callerA h₀ [] h₀) (F : Fr h₀ L s.heap m) (X : (hd.heap_39 w.params).In h₀)
  (N : News h₀ L s.heap ((L + 1, o1) :: (S, stO A place tq seed ts n) :: (A, listOf vs.toArray na) :: (96, tabObj #[]) :: (113, tabObj #[]) :: [])) (T : Top p loose mean mg mb h₀)
  (hE : PassesOwn (model prog w) (callerA.deeper (lawEnv L fa cd)) (lawEnv L fa cd) E)
  (hret : ∀ (h' : Heap) (tk' : Nat) (ps qs : Array Value), (∀ b o, h₀.get? b = some o → h'.get? b = some o) → h'.get? 96 = some (tabObj ps) → h'.get? 113 = some (tabObj qs) → Q (.ret (.bool true)) { s with heap := h', toks := tk' }) :
  wpAny (model prog w) (callerA.deeper (lawEnv L fa cd)) (execs (lawFn.body.drop 1) (lawEnv L fa cd)) Q E s := by
  have hASn : A ≠ S := Nat.ne_of_lt hAS
  unfold lawEnv lawFn getFn
  dsimp only [List.drop]
  k_steps
  rename Fr _ _ _ _ => kF2
  rename News _ _ _ _ => kN2
  rename IsRange _ _ _ _ _ _ _ _ => kR2
  rename (0 : Int) ≤ _ => r0
  rename (_ : Int) < 4 => r1
  refine Hold.mk (LCg.CompSrc.range (by rfl) kF2 kN2 kR2 (small_one (by omega) (by omega) (by omega) (by omega)) (rangeSize_nat _ _) (by rw [PySem.sizeLine_eq]; omega) ?_)
  intro g9
  refine comp_inv (fun j ys nw => ∃ (pl2 : Int) (tq2 : Tok) (ws : List Str), nw = (L + 1, o1) :: (S, stO A pl2 tq2 seed ts n) :: (A, listOf vs.toArray na) :: (96, tabObj #[]) :: (113, tabObj #[]) :: [] ∧ place ≤ pl2 ∧ pl2 ≤ place + 1 + 4 * j ∧ SA ys ws ∧ ws.length = j ∧ ∀ y ∈ ws, WordOk y)
    ⟨place + 1, _, [], rfl, by omega, by omega, .nil, rfl, fun _ h => nomatch h⟩ ?_ ?_
  · rintro j v I2 oI C oC D m₂ ys nw h tk E' hlt ⟨pl2, tq2, ws, rfl, h1, h2, hS, hw, hG⟩ hv hC hx F N off ne
    have off2 := off
    simp only [LCg.Off3, and_true] at off
    have ht : (j : Int) < 8 := by omega
    k_steps
    refine Hold.mk ?_
    (k_here; (with_reducible show wpAny _ _ (call (Value.ref 273) [Value.ref _]) _ _ _); k_dflt (refine' Cx.use (c_word ?y3 ?y4 ?y5 ?y6 ?yU ?yA ?yn ?yi ?yl) ?B ?F ?X ?N ?T ?hk ?hd ?hu (And.intro rfl ?_); (case N => k_asm); (case yU => first | assumption | k_updF); (case yA => first | assumption | kcf_m); (case yn => first | assumption | k_ne); (case yi => assumption); (case yl => assumption); (case y3 => first | assumption | omega); (case y4 => first | assumption | omega); (case y5 => assumption); (case y6 => assumption); (case B => k_asm); (case F => k_asm); (case X => k_asm); (case T => k_asm); (case hk => first | exact rfl | assumption); (case hd => ktr_room); (case hu => ktr_units)); refine (fun x9 t9 tp9 pl9 h9 tk9 w9 p1 p2 F9 N9 => ?_); (try dsimp only at N9); (have wl9 := w9.2.1); (try k_sweep); (try dsimp only))
    rename Fr _ _ _ _ => kF
    rename News _ _ _ _ => kN
    rename WordOk _ => w9
    rename pl2 ≤ _ => q1
    rename _ ≤ pl2 + 4 => q2
    refine (LCg.CompEnd.intro kF kN ((L + 1, o1) :: (S, stO A _ _ seed ts n) :: (A, listOf vs.toArray na) :: (96, tabObj #[]) :: (113, tabObj #[]) :: []) (fun p hp => hp) off2 True.intro ⟨_, _, ws ++ [_], rfl, by omega, by omega, sa_snoc hS, by rw [List.length_append, List.length_singleton, hw], fun y hy => ?_⟩)
    rcases List.mem_append.mp hy with hy | hy
    · exact hG y hy
    · rw [List.mem_singleton.mp hy]; exact w9
  · rintro ys nw ⟨pl2, tq2, ws, rfl, h1, h2, hS, hw, hG⟩
    have b2 : pl2 ≤ place + 20 := by omega
    have hw0 : 0 < ws.length := by omega
    have hw4 : ws.length ≤ 4 := by omega
    clear kF2 kN2 kR2 h2 hw r0 r1
    k_steps
    rename Fr _ _ _ _ => kF
    rename News _ _ _ _ => kN
    rename (_ ∧ _ ∧ _ ∧ _ ∧ _) => o9
    exact Hold.mk (seg2 hpp hS hG hw0 hw4 (by omega) (by omega) hs hs2 hi hl hoc hLA hAS h96 h113 (Ne.symm o9.2.1) B kF X kN T hE hret)
end
end
theorem fresh43 : True := by
  w_top off
  trivial
section
theorem seg0_news {h₀ h : Heap} {L : Addr} {e1 e2 e3 e4 e5 : Addr × Obj} (N : News h₀ L h (e2 :: e3 :: e1 :: e4 :: e5 :: [])) : News h₀ L h (e1 :: e2 :: e3 :: e4 :: e5 :: []) := fun p hp => N p (by
  simp only [List.mem_cons, List.not_mem_nil, or_false] at hp ⊢
  rcases hp with h | h | h | h | h <;> simp [h])
section
local macro_rules | `(tactic| walk_at "execs cons") => `(tactic| (k_here; (with_reducible show wpAny _ _ (execs (Stmt.If _ _ _ _ :: _) _) _ _ _); refine Hold.out ?_))
local macro_rules | `(tactic| walk_at "CompSrc") => `(tactic| refine Hold.out ?_)
local macro_rules | `(tactic| walk_at "CompEnd") => `(tactic| refine Hold.out ?_)
local macro_rules | `(tactic| walk_at "exec Assign cons ListComp") => `(tactic| (k_here; k_dflt (refine LCg.Assign_ListComp_U (F₀ := by k_asm) (by rfl) (by with_unfolding_all rfl) (by with_unfolding_all rfl) (by decide) (by rfl) (by decide) (by rfl) (by rfl) (by rfl) ?_)))
local macro_rules | `(tactic| walk_at "call ref") => `(tactic| (k_here; (with_reducible show wpAny _ _ (call (Value.ref 191) [Value.ref _]) _ _ _); k_dflt (refine' Cx.use (c_state _ _ _ ?yi ?yl) ?B ?F ?X ?N ?T ?hk ?hd ?hu (And.intro ?hL ?_); (case N => k_asm); (case hL => assumption); (case yi => assumption); (case yl => first | assumption | omega); (case B => k_asm); (case F => k_asm); (case X => k_asm); (case T => k_asm); (case hk => first | exact rfl | assumption); (case hd => ktr_room); (case hu => ktr_units)); refine (fun S9 A9 seed9 tp9 ts9 vs9 ns9 n9 na9 h9 tk9 sd0 sd1 I9 nl9 F9 N9 lA9 lS9 => ?_); (try simp only [AllLt, and_true] at lA9 lS9); (try k_sweep); (try dsimp only)))
local macro_rules | `(tactic| walk_at "execs cons") => `(tactic| (k_here; (with_reducible show wpAny _ _ (execs (Stmt.Assign [Expr.Name (PySem.Str.ofString "words") _] _ _ :: _) _) _ _ _); refine Hold.out ?_))
local macro_rules | `(tactic| walk_at "no such step") => `(tactic| fail "none")
local macro_rules | `(tactic| walk_at "no such step") => `(tactic| fail "none")
local macro_rules | `(tactic| walk_at "no such step") => `(tactic| fail "none")
local macro_rules | `(tactic| walk_at "no such step") => `(tactic| fail "none")
local macro_rules | `(tactic| walk_at "no such step") => `(tactic| fail "none")
theorem seg0 {prog : Program} {w : World} {p : Program} {loose : List Str} {mean : ExcName → Option Value} {mg mb : Str → Option Value} (hpp : ProgOk prog)
  {fa L : Addr} {cd : Value} {h₀ : Heap} {m : Str → Option Value} {s : Shared} {Q : Flow → Shared → Prop} {E : Value → Shared → Prop}
  {l : Addr} {vs : List Value} {ns : List Int} {o0 : Obj}
  (hi : IntsAre vs ns) (hl : ns.length ≤ 1000) (hL : h₀.IsList l vs.toArray) (hoc : o0.data = .cell none) (h96 : @LT.lt Nat _ 96 L) (h113 : @LT.lt Nat _ 113 L)
  (B : Below callerA h₀ [] h₀) (F : Fr h₀ L s.heap (fun z => if z = "script" then some (.ref l) else m z)) (X : (hd.heap_39 w.params).In h₀)
  (N : News h₀ L s.heap ((L + 1, o0) :: (96, tabObj #[]) :: (113, tabObj #[]) :: [])) (T : Top p loose mean mg mb h₀)
  (hE : PassesOwn (model prog w) (callerA.deeper (lawEnv L fa cd)) (lawEnv L fa cd) E)
  (hret : ∀ (h' : Heap) (tk' : Nat) (ps qs : Array Value), (∀ b o, h₀.get? b = some o → h'.get? b = some o) → h'.get? 96 = some (tabObj ps) → h'.get? 113 = some (tabObj qs) → Q (.ret (.bool true)) { s with heap := h', toks := tk' }) :
  wpAny (model prog w) (callerA.deeper (lawEnv L fa cd)) (execs lawFn.body (lawEnv L fa cd)) Q E s := by
  unfold lawEnv lawFn getFn
  dsimp only
  k_steps
  rename Fr _ _ _ _ => kF
  rename News _ _ _ _ => kN
  rename (@LT.lt Nat _ (L + 1) _ ∧ _) => lA9
  rename (@LT.lt Nat _ _ _ ∧ @LT.lt Nat _ (L + 1) _ ∧ _) => lS9
  exact Hold.mk (seg1 hpp (by decide) (by decide) (by assumption) (by assumption) (by assumption) (by assumption) (by assumption) lA9.1 lS9.1 h96 h113 B kF X (seg0_news kN) T hE hret)
end
end
theorem fresh44 : True := by
  w_top off
  trivial
section
theorem seg_top {prog : Program} {w : World} {p : Program} {loose : List Str} {mean : ExcName → Option Value} {mg mb : Str → Option Value} (hpp : ProgOk prog)
  {fa L l : Addr} {cd : Value} {h₀ : Heap} {m : Str → Option Value} {s : Shared} {Q : Flow → Shared → Prop} {E : Value → Shared → Prop} {vs : List Value} {ns : List Int} {o0 : Obj}
  (hi : IntsAre vs ns) (hl : ns.length ≤ 1000) (hL : h₀.IsList l vs.toArray) (h96 : @LT.lt Nat _ 96 L) (h113 : @LT.lt Nat _ 113 L)
  (B : Below callerA h₀ [] h₀) (F : Fr h₀ L s.heap m) (hm : m "script" = some (.ref l)) (X : (hd.heap_39 w.params).In h₀)
  (N : News h₀ L s.heap ((L + 1, o0) :: (96, tabObj #[]) :: (113, tabObj #[]) :: [])) (hoc : o0.data = .cell none) (T : Top p loose mean mg mb h₀)
  (hE : PassesOwn (model prog w) (callerA.deeper (lawEnv L fa cd)) (lawEnv L fa cd) E)
  (hret : ∀ (h' : Heap) (tk' : Nat) (ps qs : Array Value), (∀ b o, h₀.get? b = some o → h'.get? b = some o) → h'.get? 96 = some (tabObj ps) → h'.get? 113 = some (tabObj qs) → Q (.ret (.bool true)) { s with heap := h', toks := tk' }) :
  wpAny (model prog w) (callerA.deeper (lawEnv L fa cd)) (execs lawFn.body (lawEnv L fa cd)) Q E s :=
  seg0 (m := m) hpp hi hl hL hoc h96 h113 B (by
    have e : (fun z => if z = ("script" : Str) then some (Value.ref l) else m z) = m := upd_self hm
    rw [e]; exact F) X N T hE hret
theorem prog_ok : ProgOk PySem.Challenge.rw_ev0029_01.row.prog := ⟨by decide +kernel, by decide +kernel⟩
theorem law_holds : PySem.Challenge.rw_ev0029_01.Holds := hd (by
  k_go0
  rename Below _ _ _ _ => kB
  rename Fr _ _ _ _ => kF
  rename News _ _ _ _ => kN
  rename Frag.In _ (ghostOf _ _) => kX
  rename Top _ _ _ _ _ (ghostOf _ _) => kT
  rename Heap.IsList (ghostOf _ _) _ _ => kL
  rename IntsAre _ _ => kI
  rename (_ = Data.cell _) => kc
  rename (@LT.lt Nat _ 96 _ ∧ _) => l0
  refine seg_top prog_ok kI ?_ kL l0.1 l0.2 kB kF ?_ kX kN kc kT ?_ ?_
  · omega
  · rfl
  · with_unfolding_all passes_own
  · intro h' tk' ps qs ek e1 e2
    rename (Shared.gens _ = #[]) => hg
    refine ⟨⟨.inl ⟨_, .bool true, [], rfl, ?_, .bool true, ?_, ?_⟩, ek, rfl, hg⟩, ⟨ps, e1⟩, ⟨qs, e2⟩, trivial⟩
    · intro _; rfl
    · wrow_post
    · exact fun _ => ⟨.nil, fun _ ha => nomatch ha⟩)
end
end
end Mine
theorem PySem.Challenge.cw_ev0029_01_holds : PySem.Challenge.rw_ev0029_01.Holds :=
  Mine.law_holds

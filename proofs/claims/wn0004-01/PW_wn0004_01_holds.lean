import PyProof.Rows.All
import Wide.All
import OpenK.AllK
import KE.KPairComp
import KE.LcSums
import KE.BytesMake
import KE.KRevSl
import KE.KEqDict
import KE.KBytesWalk
import KE.KDictList
import KE.KBytesAny
import KE.KIsBytes
import PyProof.Draws
import Wide.FinOn
import PySem.Challenge.RW_wn0004_01
set_option Elab.async false
section -- R1
namespace Mine
open PySem PySem.Sre

def code1 : Array Nat := #[14,4,0,1,1,6,1,16,46,1]
def code2 : Array Nat := #[14, 9, 4, 1, 2, 16, 10, 16, 13, 0, 7, 7, 16, 13, 16, 10, 15, 18, 5, 16, 10, 15, 13, 11, 16, 13, 5, 5, 0, 16, 10, 1, 15, 2, 0, 1]

theorem runFor_add (a b : Nat) (m : M) : M.runFor (a + b) m = M.runFor b (M.runFor a m) := by
  induction a generalizing m with
  | zero => rw [Nat.zero_add]; rfl
  | succ a ih =>
    rw [Nat.succ_add]
    show (if m.outcome.isSome then m else M.runFor (a + b) m.step) = M.runFor b (if m.outcome.isSome then m else M.runFor a m.step)
    by_cases h : m.outcome.isSome = true
    · rw [if_pos h, if_pos h]
      cases b with
      | zero => rfl
      | succ b => show m = if m.outcome.isSome then m else _; rw [if_pos h]
    · rw [if_neg h, if_neg h]; exact ih _

theorem runFor_step {m m' : M} (h : m.outcome = none) (e : m.step = m') (n : Nat) : M.runFor (n + 1) m = M.runFor n m' := by
  show (if m.outcome.isSome then m else M.runFor n m.step) = _
  rw [h, e]; rfl

/-- from m the machine comes to a state with P in k steps -/
def Comes (k : Nat) (m : M) (P : M → Prop) : Prop := P (M.runFor k m)
theorem Comes.step {k : Nat} {m m' : M} {P : M → Prop} (h : m.outcome = none) (e : m.step = m') (c : Comes k m' P) : Comes (k + 1) m P := by
  unfold Comes; rw [runFor_step h e]; exact c
theorem Comes.zero {m : M} {P : M → Prop} (h : P m) : Comes 0 m P := h

def Hit (b e : Nat) (m : M) : Prop := m.outcome = some .matched ∧ m.start = b ∧ m.handed = e
def Miss (m : M) : Prop := m.outcome = some .failed

/-- pattern 1: the machine at an attempt at s -/
def A1 (text : Array Nat) (lim last s : Nat) (must first : Bool) (seen : Seen) (pc pos : Nat) : M :=
  { code := code1, text, lim, start := s, lastStart := last, pc := pc, pos := pos, handed := s, outermost := first, mustAdvance := must,
    marks := #[], frames := [{ wait := .nextStart, pc := 5, pos := s, outermost := first }], weight := 1, seen := seen }

section
variable {text : Array Nat} {lim last s : Nat} {must first : Bool} {seen : Seen}

theorem A1_yes (h : s = 0 ∨ text[s - 1]?.getD 0 = 10) :
    (A1 text lim last s must first seen 5 s).step = A1 text lim last s must first ((seen.add 6).add 44) 7 s := by
  simp [A1, M.step, M.exec, M.word, M.isAt, ops, code1, h]
theorem A1_no (h : ¬(s = 0 ∨ text[s - 1]?.getD 0 = 10)) :
    (A1 text lim last s must first seen 5 s).step = (A1 text lim last s must first ((seen.add 6).add 44) 5 s).say false := by
  simp only [not_or] at h
  simp [A1, M.step, M.exec, M.word, M.isAt, M.say, ops, code1, h.1, h.2]
theorem A1_dot (h : s < lim) (h2 : text[s]?.getD 0 = 46) :
    (A1 text lim last s must first seen 7 s).step = A1 text lim last s must first (seen.add 16) 9 (s + 1) := by
  simp [A1, M.step, M.exec, M.word, accepts, itemWidth, ops, code1, h2, Nat.not_le.mpr h]
theorem A1_nodot (h : ¬(s < lim ∧ text[s]?.getD 0 = 46)) :
    ∃ seen', (A1 text lim last s must first seen 7 s).step = (A1 text lim last s must first seen' 7 s).say false := by
  by_cases h1 : s < lim
  · have h2 : ¬ text[s]?.getD 0 = 46 := fun e => h ⟨h1, e⟩
    have h3 : (text[s]?.getD 0 == 46) = false := by simpa using h2
    refine ⟨(seen.add 16), ?_⟩
    simp [A1, M.step, M.exec, M.word, M.say, accepts, itemWidth, ops, code1, h3, Nat.not_le.mpr h1]
  · refine ⟨(seen.add 16), ?_⟩
    simp [A1, M.step, M.exec, M.word, M.say, ops, code1, Nat.not_lt.mp h1]
theorem A1_fin : Comes 3 (A1 text lim last s must first seen 9 (s + 1)) (Hit s (s + 1)) := by
  unfold Comes Hit
  simp [M.runFor, A1, M.step, M.exec, M.word, M.say, M.resume, ops, code1]
theorem A1_next (pc pos : Nat) (h : s < last) : ((A1 text lim last s must first seen pc pos).say false).step = A1 text lim last (s + 1) false false seen 5 (s + 1) := by
  simp [A1, M.step, M.say, M.resume, M.putBack, M.attemptFrom, M.hasFirstSet, M.attemptAt, M.attempt, ops, code1, h]
theorem A1_over (pc pos : Nat) (h : ¬ s < last) : Comes 2 ((A1 text lim last s must first seen pc pos).say false) Miss := by
  unfold Comes Miss
  simp [M.runFor, A1, M.step, M.say, M.resume, h]
end

/-- where pattern 1 matches -/
def At1 (text : Array Nat) (lim s : Nat) : Prop := (s = 0 ∨ text[s - 1]?.getD 0 = 10) ∧ s < lim ∧ text[s]?.getD 0 = 46

theorem A1_fails {text : Array Nat} {lim last s : Nat} {must first : Bool} {seen : Seen} (h : ¬ At1 text lim s) :
    ∃ k seen' pc pos, k ≤ 2 ∧ M.runFor k (A1 text lim last s must first seen 5 s) = (A1 text lim last s must first seen' pc pos).say false := by
  by_cases h1 : s = 0 ∨ text[s - 1]?.getD 0 = 10
  · obtain ⟨seen', e⟩ := A1_nodot (text := text) (lim := lim) (last := last) (s := s) (must := must) (first := first) (seen := (seen.add 6).add 44) (fun h2 => h ⟨h1, h2⟩)
    exact ⟨2, seen', 7, s, by omega, by rw [runFor_step rfl (A1_yes h1), runFor_step rfl e]; rfl⟩
  · exact ⟨1, _, 5, s, by omega, by rw [runFor_step rfl (A1_no h1)]; rfl⟩

theorem A1_hit {text : Array Nat} {lim last b : Nat} : ∀ (d s : Nat) (must first : Bool) (seen : Seen), s + d = b → b ≤ last → At1 text lim b → (∀ j, s ≤ j → j < b → ¬ At1 text lim j) →
    ∃ k, k ≤ 3 * d + 5 ∧ Comes k (A1 text lim last s must first seen 5 s) (Hit b (b + 1)) := by
  intro d
  induction d with
  | zero =>
    intro s must first seen hs _ hat _
    obtain rfl : s = b := hs
    exact ⟨5, by omega, Comes.step rfl (A1_yes hat.1) (Comes.step rfl (A1_dot hat.2.1 hat.2.2) A1_fin)⟩
  | succ d ih =>
    intro s must first seen hs hl hat hno
    obtain ⟨k, seen', pc, pos, hk, e⟩ := A1_fails (text := text) (lim := lim) (last := last) (s := s) (must := must) (first := first) (seen := seen) (hno s (Nat.le_refl _) (by omega))
    obtain ⟨k', hk', c⟩ := ih (s + 1) false false seen' (by omega) hl hat (fun j h1 h2 => hno j (by omega) h2)
    refine ⟨k + (k' + 1), by omega, ?_⟩
    unfold Comes
    rw [runFor_add, e]
    exact Comes.step rfl (A1_next pc pos (by omega)) c

theorem A1_miss {text : Array Nat} {lim last : Nat} : ∀ (d s : Nat) (must first : Bool) (seen : Seen), s + d = last → (∀ j, s ≤ j → j ≤ last → ¬ At1 text lim j) →
    ∃ k, k ≤ 3 * d + 5 ∧ Comes k (A1 text lim last s must first seen 5 s) Miss := by
  intro d
  induction d with
  | zero =>
    intro s must first seen hs hno
    obtain ⟨k, seen', pc, pos, hk, e⟩ := A1_fails (text := text) (lim := lim) (last := last) (s := s) (must := must) (first := first) (seen := seen) (hno s (Nat.le_refl _) (by omega))
    refine ⟨k + 2, by omega, ?_⟩
    unfold Comes
    rw [runFor_add, e]
    exact A1_over pc pos (by omega)
  | succ d ih =>
    intro s must first seen hs hno
    obtain ⟨k, seen', pc, pos, hk, e⟩ := A1_fails (text := text) (lim := lim) (last := last) (s := s) (must := must) (first := first) (seen := seen) (hno s (Nat.le_refl _) (by omega))
    obtain ⟨k', hk', c⟩ := ih (s + 1) false false seen' (by omega) (fun j h1 h2 => hno j (by omega) h2)
    refine ⟨k + (k' + 1), by omega, ?_⟩
    unfold Comes
    rw [runFor_add, e]
    exact Comes.step rfl (A1_next pc pos (by omega)) c

theorem search1_start {text : Array Nat} {lim s : Nat} {must : Bool} (h : s < lim) :
    ∃ seen, Sre.forSearch code1 text 0 s lim must = A1 text lim lim s must true seen 5 s := by
  have hc : ¬ ((decide (s > lim) || decide (lim - s < (header code1).1)) = true) := by
    have : (header code1).1 = 1 := by decide
    rw [this]; simp; omega
  refine ⟨({} : Seen).add 14, ?_⟩
  unfold forSearch
  dsimp only
  rw [if_neg hc]
  rfl
theorem search1_none_at_end {text : Array Nat} {lim s : Nat} {must : Bool} (h : ¬ s < lim) : Comes 1 (Sre.forSearch code1 text 0 s lim must) Miss := by
  have hc : ((decide (s > lim) || decide (lim - s < (header code1).1)) = true) := by
    have : (header code1).1 = 1 := by decide
    rw [this]; simp; omega
  unfold forSearch
  dsimp only
  rw [if_pos hc]
  rfl

theorem search1_hit {text : Array Nat} {lim s b : Nat} {must : Bool} (hs : s ≤ b) (hat : At1 text lim b) (hno : ∀ j, s ≤ j → j < b → ¬ At1 text lim j) :
    ∃ k, k ≤ 3 * lim + 5 ∧ Comes k (Sre.forSearch code1 text 0 s lim must) (Hit b (b + 1)) := by
  have hb := hat.2.1
  obtain ⟨seen, e⟩ := search1_start (text := text) (lim := lim) (s := s) (must := must) (by omega)
  obtain ⟨k, hk, c⟩ := A1_hit (last := lim) (b - s) s must true seen (by omega) (by omega) hat hno
  exact ⟨k, by omega, by rw [e]; exact c⟩
theorem search1_miss {text : Array Nat} {lim s : Nat} {must : Bool} (hno : ∀ j, s ≤ j → j ≤ lim → ¬ At1 text lim j) :
    ∃ k, k ≤ 3 * lim + 5 ∧ Comes k (Sre.forSearch code1 text 0 s lim must) Miss := by
  by_cases h : s < lim
  · obtain ⟨seen, e⟩ := search1_start (text := text) (lim := lim) (s := s) (must := must) h
    obtain ⟨k, hk, c⟩ := A1_miss (last := lim) (lim - s) s must true seen (by omega) hno
    exact ⟨k, by omega, by rw [e]; exact c⟩
  · exact ⟨1, by omega, search1_none_at_end h⟩
end Mine
end
section -- R2
namespace Mine
open PySem PySem.Sre

/-- pattern 2: the machine at an attempt at s -/
def A2 (text : Array Nat) (lim last s : Nat) (first : Bool) (seen : Seen) : M :=
  { code := code2, text, lim, start := s, lastStart := last, pc := 10, pos := s, handed := s, outermost := first, mustAdvance := false,
    marks := #[], frames := [{ wait := .nextStart, pc := 10, pos := s, outermost := first }], weight := 1, seen := seen }

section
variable {text : Array Nat} {lim last s : Nat} {first : Bool} {seen : Seen}

theorem A2_crlf (h : s + 1 < lim) (h1 : text[s]?.getD 0 = 13) (h2 : text[s + 1]?.getD 0 = 10) : Comes 8 (A2 text lim last s first seen) (Hit s (s + 2)) := by
  have g1 : ¬ lim ≤ s := by omega
  have g2 : ¬ lim ≤ s + 1 := by omega
  unfold Comes Hit
  simp [M.runFor, A2, M.step, M.exec, M.word, M.say, M.resume, M.alternative, M.attempt, M.frame, M.keep, accepts, itemWidth, ops, code2, h1, h2, g1, g2]

theorem A2_lf (h : s < lim) (h1 : text[s]?.getD 0 = 10) : Comes 9 (A2 text lim last s first seen) (Hit s (s + 1)) := by
  have g1 : ¬ lim ≤ s := by omega
  unfold Comes Hit
  simp [M.runFor, A2, M.step, M.exec, M.word, M.say, M.resume, M.alternative, M.attempt, M.frame, M.keep, M.putBack, accepts, itemWidth, ops, code2, h1, g1]

theorem A2_cr (h : s < lim) (h1 : text[s]?.getD 0 = 13) (h2 : ¬ (s + 1 < lim ∧ text[s + 1]?.getD 0 = 10)) : ∃ k, k ≤ 40 ∧ Comes k (A2 text lim last s first seen) (Hit s (s + 1)) := by
  have g1 : ¬ lim ≤ s := by omega
  refine ⟨17, by omega, ?_⟩
  unfold Comes Hit
  by_cases h3 : s + 1 < lim
  · have h4 : ¬ text[s + 1]?.getD 0 = 10 := fun e => h2 ⟨h3, e⟩
    have h4' : (text[s + 1]?.getD 0 == 10) = false := by simpa using h4
    have g2 : ¬ lim ≤ s + 1 := by omega
    simp [M.runFor, A2, M.step, M.exec, M.word, M.say, M.resume, M.alternative, M.attempt, M.frame, M.keep, M.putBack, accepts, itemWidth, ops, code2, h1, h4', g1, g2]
  · have g2 : lim ≤ s + 1 := by omega
    simp [M.runFor, A2, M.step, M.exec, M.word, M.say, M.resume, M.alternative, M.attempt, M.frame, M.keep, M.putBack, accepts, itemWidth, ops, code2, h1, g1, g2]
end

/-- an end of line's sign -/
def isEnd (c : Nat) : Prop := c = 10 ∨ c = 13
/-- what pattern 2 takes at s -/
def endLen (text : Array Nat) (lim s : Nat) : Nat := if text[s]?.getD 0 = 13 ∧ s + 1 < lim ∧ text[s + 1]?.getD 0 = 10 then 2 else 1

theorem A2_hit {text : Array Nat} {lim last s : Nat} {first : Bool} {seen : Seen} (h : s < lim) (hc : isEnd (text[s]?.getD 0)) :
    ∃ k, k ≤ 40 ∧ Comes k (A2 text lim last s first seen) (Hit s (s + endLen text lim s)) := by
  unfold endLen
  by_cases h13 : text[s]?.getD 0 = 13
  · by_cases h2 : s + 1 < lim ∧ text[s + 1]?.getD 0 = 10
    · rw [if_pos ⟨h13, h2⟩]; exact ⟨8, by omega, A2_crlf h2.1 h13 h2.2⟩
    · rw [if_neg (fun x => h2 x.2)]; exact A2_cr h h13 h2
  · rw [if_neg (fun x => h13 x.1)]
    exact ⟨9, by omega, A2_lf h (hc.resolve_right h13)⟩

theorem inSet2 (c : Nat) (seen : Seen) : (isEnd c → ∃ seen', inSet code2 c code2.size 5 true seen = .ok (true, seen')) ∧ (¬ isEnd c → ∃ seen', inSet code2 c code2.size 5 true seen = .ok (false, seen')) := by
  constructor
  · rintro (h | h)
    · exact ⟨_, by simp [inSet, code2, ops, h]; rfl⟩
    · exact ⟨_, by simp [inSet, code2, ops, h]; rfl⟩
  · intro h
    simp only [isEnd, not_or] at h
    have h1 : (c == 10) = false := by simpa using h.1
    have h2 : (c == 13) = false := by simpa using h.2
    exact ⟨_, by simp [inSet, code2, ops, h1, h2]; rfl⟩

theorem admitted_hit {m : M} (hm : m.code = code2) {b : Nat} (hb : b < m.lim) (hc : isEnd (m.text[b]?.getD 0)) : ∀ (d s fuel : Nat) (seen : Seen), s + d = b → d < fuel → (∀ j, s ≤ j → j < b → ¬ isEnd (m.text[j]?.getD 0)) →
    ∃ seen', M.admitted m fuel s seen = .ok (some b, seen') := by
  intro d
  induction d with
  | zero =>
    intro s fuel seen hs hf _
    obtain rfl : s = b := hs
    obtain ⟨f, rfl⟩ : ∃ f, fuel = f + 1 := ⟨fuel - 1, by omega⟩
    obtain ⟨seen', e⟩ := (inSet2 (m.text[s]?.getD 0) seen).1 hc
    refine ⟨seen', ?_⟩
    rw [M.admitted, if_neg (by omega), hm, Array.getD_eq_getD_getElem?, e]
  | succ d ih =>
    intro s fuel seen hs hf hno
    obtain ⟨f, rfl⟩ : ∃ f, fuel = f + 1 := ⟨fuel - 1, by omega⟩
    obtain ⟨seen₁, e⟩ := (inSet2 (m.text[s]?.getD 0) seen).2 (hno s (Nat.le_refl _) (by omega))
    obtain ⟨seen', e'⟩ := ih (s + 1) f seen₁ (by omega) (by omega) (fun j h1 h2 => hno j (by omega) h2)
    refine ⟨seen', ?_⟩
    rw [M.admitted, if_neg (by omega), hm, Array.getD_eq_getD_getElem?, e]
    exact e'

theorem admitted_miss {m : M} (hm : m.code = code2) : ∀ (fuel s : Nat) (seen : Seen), (∀ j, s ≤ j → j < m.lim → ¬ isEnd (m.text[j]?.getD 0)) →
    ∃ seen', M.admitted m fuel s seen = .ok (none, seen') := by
  intro fuel
  induction fuel with
  | zero => intro s seen _; exact ⟨seen, rfl⟩
  | succ fuel ih =>
    intro s seen hno
    by_cases h : s ≥ m.lim
    · exact ⟨seen, by rw [M.admitted, if_pos h]⟩
    · obtain ⟨seen₁, e⟩ := (inSet2 (m.text[s]?.getD 0) seen).2 (hno s (Nat.le_refl _) (by omega))
      obtain ⟨seen', e'⟩ := ih (s + 1) seen₁ (fun j h1 h2 => hno j (by omega) h2)
      refine ⟨seen', ?_⟩
      rw [M.admitted, if_neg h, hm, Array.getD_eq_getD_getElem?, e]
      exact e'

/-- the machine ahead of the first attempt -/
def B2 (text : Array Nat) (lim s : Nat) (must : Bool) : M :=
  { code := code2, text, lim, start := s, lastStart := lim, pc := 10, pos := s, handed := s, mustAdvance := must, marks := #[], seen := ({} : Seen).add 14 }

theorem search2_start {text : Array Nat} {lim s : Nat} {must : Bool} (h : s < lim) : Sre.forSearch code2 text 0 s lim must = (B2 text lim s must).attemptFrom s true := by
  have hc : ¬ ((decide (s > lim) || decide (lim - s < (header code2).1)) = true) := by
    have : (header code2).1 = 1 := by decide
    rw [this]; simp; omega
  unfold forSearch
  dsimp only
  rw [if_neg hc]
  rfl
theorem search2_none_at_end {text : Array Nat} {lim s : Nat} {must : Bool} (h : ¬ s < lim) : Comes 1 (Sre.forSearch code2 text 0 s lim must) Miss := by
  have hc : ((decide (s > lim) || decide (lim - s < (header code2).1)) = true) := by
    have : (header code2).1 = 1 := by decide
    rw [this]; simp; omega
  unfold forSearch
  dsimp only
  rw [if_pos hc]
  rfl

theorem search2_hit {text : Array Nat} {lim s b : Nat} {must : Bool} (hs : s ≤ b) (hb : b < lim) (hc : isEnd (text[b]?.getD 0)) (hno : ∀ j, s ≤ j → j < b → ¬ isEnd (text[j]?.getD 0)) :
    ∃ k, k ≤ 40 ∧ Comes k (Sre.forSearch code2 text 0 s lim must) (Hit b (b + endLen text lim b)) := by
  rw [search2_start (by omega)]
  obtain ⟨seen, e⟩ := admitted_hit (m := B2 text lim s must) rfl hb hc (b - s) s (lim + 1 - s) (({} : Seen).add 14) (by omega) (by omega) hno
  have e2 : (B2 text lim s must).attemptFrom s true = A2 text lim lim b true seen := by
    unfold M.attemptFrom
    rw [if_neg (show ¬ ((!(B2 text lim s must).hasFirstSet) = true) from by rw [show (B2 text lim s must).hasFirstSet = true from rfl]; decide)]
    have e' : M.admitted (B2 text lim s must) ((B2 text lim s must).lim + 1 - s) s (B2 text lim s must).seen = .ok (some b, seen) := e
    rw [e']
    rfl
  rw [e2]
  exact A2_hit hb hc
theorem search2_miss {text : Array Nat} {lim s : Nat} {must : Bool} (hno : ∀ j, s ≤ j → j < lim → ¬ isEnd (text[j]?.getD 0)) :
    ∃ k, k ≤ 40 ∧ Comes k (Sre.forSearch code2 text 0 s lim must) Miss := by
  by_cases h : s < lim
  · rw [search2_start h]
    obtain ⟨seen, e⟩ := admitted_miss (m := B2 text lim s must) rfl (lim + 1 - s) s (({} : Seen).add 14) hno
    refine ⟨1, by omega, ?_⟩
    have e2 : (B2 text lim s must).attemptFrom s true = { B2 text lim s must with seen := seen }.say false := by
      unfold M.attemptFrom
      rw [if_neg (show ¬ ((!(B2 text lim s must).hasFirstSet) = true) from by rw [show (B2 text lim s must).hasFirstSet = true from rfl]; decide)]
      have e' : M.admitted (B2 text lim s must) ((B2 text lim s must).lim + 1 - s) s (B2 text lim s must).seen = .ok (none, seen) := e
      rw [e']
    rw [e2]
    rfl
  · exact ⟨1, by omega, search2_none_at_end h⟩
end Mine
end
section -- R3
namespace Mine
open PySem PySem.Sre PySem.Builtin PySem.Builtin.Re
set_option maxRecDepth 100000

section
variable {M₀ : Model} {A : Around} {E : Value → Shared → Prop} {s : Shared}

theorem runFor_stays {m : M} (h : m.outcome.isSome = true) : ∀ n, M.runFor n m = m
  | 0 => rfl
  | n + 1 => by show (if m.outcome.isSome then m else _) = m; rw [if_pos h]

theorem wp_reDrive {Q : M → Shared → Prop} : ∀ (n k : Nat) (m : M), k ≤ 4 * n → (M.runFor k m).outcome.isSome = true → (0 < n) → Q (M.runFor k m) s → wpAny M₀ A (reDrive n m) Q E s := by
  intro n
  induction n with
  | zero => intro k m _ _ h _; omega
  | succ n ih =>
    intro k m hk ho _ hQ
    have e4 : reDrive (n + 1) m = (if (M.runFor 4 m).outcome.isSome then pure (M.runFor 4 m) else do rule "sre.turn"; reDrive n (M.runFor 4 m)) := rfl
    rw [e4]
    by_cases h4 : (M.runFor 4 m).outcome.isSome = true
    · rw [if_pos h4]
      have e : M.runFor k m = M.runFor 4 m := by
        rcases Nat.le_total k 4 with h | h
        · have := runFor_add k (4 - k) m
          rw [show k + (4 - k) = 4 by omega] at this
          rw [this, runFor_stays ho]
        · have := runFor_add 4 (k - 4) m
          rw [show 4 + (k - 4) = k by omega] at this
          rw [this, runFor_stays h4]
      rw [e] at hQ
      exact wpAny_pure hQ
    · rw [if_neg h4]
      have hk4 : 4 < k := by
        rcases Nat.lt_or_ge 4 k with h | h
        · exact h
        · exfalso
          have := runFor_add k (4 - k) m
          rw [show k + (4 - k) = 4 by omega] at this
          rw [this, runFor_stays ho] at h4
          exact h4 ho
      have e : M.runFor k m = M.runFor (k - 4) (M.runFor 4 m) := by
        have := runFor_add 4 (k - 4) m
        rw [show 4 + (k - 4) = k by omega] at this
        exact this
      rw [e] at ho hQ
      exact wpAny_bind (wpAny_rule (ih (k - 4) _ (by omega) ho (by omega) hQ))

theorem wp_runToEnd_hit {m : M} {b e k : Nat} (hk : k ≤ 2 ^ 60) (c : Comes k m (Hit b e)) {Q : Option M → Shared → Prop} (h : ∀ m', Hit b e m' → Q (some m') s) : wpAny M₀ A (reRunToEnd m) Q E s := by
  unfold reRunToEnd
  have ho : (M.runFor k m).outcome.isSome = true := by rw [c.1]; rfl
  refine wpAny_bind (wp_reDrive _ k m (by omega) ho (by decide) ?_)
  refine wpAny_bind (wpAny_forIn_list _ (fun _ _ s' => s' = s) _ ?_ ?_ _ _ rfl)
  · rintro x rest b s' rfl
    try dsimp only
    split
    · exact wpAny_bind (wpAny_rule (wpAny_pure rfl))
    · exact wpAny_pure rfl
  rintro _ s' rfl
  try dsimp only
  have hc : (M.runFor k m).outcome = some .matched := c.1
  rw [hc]
  exact wpAny_pure (h _ c)
theorem wp_runToEnd_miss {m : M} {k : Nat} (hk : k ≤ 2 ^ 60) (c : Comes k m Miss) {Q : Option M → Shared → Prop} (h : Q none s) : wpAny M₀ A (reRunToEnd m) Q E s := by
  unfold reRunToEnd
  have hc : (M.runFor k m).outcome = some .failed := c
  have ho : (M.runFor k m).outcome.isSome = true := by rw [hc]; rfl
  refine wpAny_bind (wp_reDrive _ k m (by omega) ho (by decide) ?_)
  refine wpAny_bind (wpAny_forIn_list _ (fun _ _ s' => s' = s) _ ?_ ?_ _ _ rfl)
  · rintro x rest b s' rfl
    try dsimp only
    split
    · exact wpAny_bind (wpAny_rule (wpAny_pure rfl))
    · exact wpAny_pure rfl
  rintro _ s' rfl
  try dsimp only
  rw [hc]
  exact wpAny_pure h
end
end Mine
end
section -- R4
namespace Mine
open PySem PySem.Sre PySem.Builtin PySem.Builtin.Re PySem.Builtin.Str
set_option maxRecDepth 100000

/-- a compiled pattern stands at p -/
def Pat (h : Heap) (p : Addr) (code : Array Nat) : Prop :=
  ∃ op x0 x1 c oc n, h.get? p = some op ∧ op.cls = .type "re.Pattern" ∧ op.dict = none ∧ op.data = .fields #[x0, x1, .int 0 0, .none, .none, .ref c, .int 0 0] ∧
    h.get? c = some oc ∧ oc.data = .seq (code.map fun k : Nat => Value.int (k : Int) 0) n
theorem Pat.keeps {h h' : Heap} {p code} (x : Pat h p code) (k : ∀ b o, h.get? b = some o → h'.get? b = some o) : Pat h' p code :=
  let ⟨op, x0, x1, c, oc, n, a1, a2, a3, a4, a5, a6⟩ := x; ⟨op, x0, x1, c, oc, n, k _ _ a1, a2, a3, a4, k _ _ a5, a6⟩

def Finds (code text : Array Nat) (s b e : Nat) : Prop := ∀ must, ∃ k, k ≤ 2 ^ 60 ∧ Comes k (Sre.forSearch code text 0 s text.size must) (Hit b e)
def NoFind (code text : Array Nat) (s : Nat) : Prop := ∀ must, ∃ k, k ≤ 2 ^ 60 ∧ Comes k (Sre.forSearch code text 0 s text.size must) Miss

inductive SubRun (code text rep : Array Nat) : Nat → Array Nat → Prop
  | miss {d} : NoFind code text d → SubRun code text rep d (text.extract d text.size)
  | hit {d b e out} : Finds code text d b e → d ≤ b → b < e → e ≤ text.size → SubRun code text rep e out → SubRun code text rep d (text.extract d b ++ rep ++ out)

def target (p : Addr) (x : Str) (t : Tok) (code : Array Nat) : ReTarget :=
  { pattern := .ref p, string := .str x t, code, text := x.cps, kind := 0, groups := 0, pos := 0, lim := x.cps.size }

def cat (ps : List (Str × Tok)) : Array Nat := ps.foldl (fun a q => a ++ q.1.cps) #[]
theorem cat_snoc (ps : List (Str × Tok)) (q : Str × Tok) : cat (ps ++ [q]) = cat ps ++ q.1.cps := by simp [cat, List.foldl_append]

section
variable {prog : Program} {w : World} {A : Around} {E : Value → Shared → Prop} {s : Shared}

theorem rawItems_back (code : Array Nat) : ((code.map fun k : Nat => Value.int (k : Int) 0).map reRawOf).map (·.toNat) = code := by
  rw [Array.map_map, Array.map_map]
  have : (((fun x : Int => x.toNat) ∘ reRawOf) ∘ fun k : Nat => Value.int (k : Int) 0) = _root_.id := by
    funext k; rfl
  rw [this, Array.map_id]

theorem wp_wholeTarget {p : Addr} {x : Str} {t : Tok} {code : Array Nat} {Q : ReTarget → Shared → Prop} (P : Pat s.heap p code) (h : Q (target p x t code) s) :
    wpAny (model prog w) A (reWholeTarget (.ref p) (.str x t)) Q E s := by
  obtain ⟨op, x0, x1, c, oc, n, a1, a2, a3, a4, a5, a6⟩ := P
  unfold reWholeTarget
  refine wpAny_bind (wpAny_fieldsOf a1 a4 ?_)
  refine wpAny_bind (wpAny_of_eq (a := (x.cps, 0)) rfl ?_)
  dsimp only
  show wpAny _ _ (reNoCollectionInside _ 0 >>= _) _ _ _
  refine wpAny_bind (wpAny_pure ?_)
  show wpAny _ _ (reRawItems (.ref c) >>= _) _ _ _
  refine wpAny_bind ?_
  unfold reRawItems
  refine wpAny_bind (wpAny_seqItems a5 a6 (wpAny_pure (wpAny_pure ?_)))
  have e := rawItems_back code
  have e2 : (target p x t code) = { pattern := .ref p, string := .str x t, code := (((some (code.map fun k : Nat => Value.int (k : Int) 0)).getD #[]).map reRawOf).map (·.toNat), text := x.cps, kind := 0, groups := 0, pos := 0, lim := x.cps.size } := by
    show _ = ReTarget.mk _ _ (((code.map fun k : Nat => Value.int (k : Int) 0).map reRawOf).map (·.toNat)) _ _ _ _ _
    rw [e]; rfl
  rw [e2] at h
  exact h

theorem plain_subLoop : plainId "re.Pattern.sub.loop" = true := by decide +kernel
theorem entry_subLoop : entryFor table "re.Pattern.sub.loop" = some Builtin.«re.Pattern.sub.loop» := entryFor_of_fast (by kernel_rfl)

theorem glued_empty (l : List (Str × Tok)) : glued ⟨#[]⟩ (l.map (·.1)) = ⟨cat l⟩ := by
  cases l with
  | nil => rfl
  | cons p r =>
    simp only [glued, cat, List.map_cons, List.drop_succ_cons, List.drop_zero, List.headD_cons, List.foldl_cons, Array.empty_append, List.foldl_map, Array.append_empty]

/-- the pieces in a list -/
theorem wp_push {l : Addr} {ps : List (Str × Tok)} {q : Str × Tok} {Q : Unit → Shared → Prop} (hl : s.heap.IsList l (strValues ps).toArray) (hz : ps.length ≤ 1000000)
    (h : ∀ h', h'.IsList l (strValues (ps ++ [q])).toArray → (∀ b o, b ≠ l → s.heap.get? b = some o → h'.get? b = some o) → Q () { s with heap := h' }) :
    wpAny (model prog w) A (updateSeq l (·.push (.str q.1 q.2))) Q E s := by
  obtain ⟨o, ho, hc, n, hd⟩ := hl
  have hsz : (strValues ps).toArray.size ≤ 1000000 := by simpa [strValues] using hz
  have hsl : (1000000 : Nat) + 1 ≤ sizeLine := by decide
  refine wpAny_updateSeq (hz := by omega) ho hd (h _ ?_ fun b o' hb e => (Heap.get?_update_other _ _ (Ne.symm hb)).trans e) (by show ((strValues ps).toArray.push _).size ≤ _; rw [Array.size_push]; omega)
  obtain ⟨n', hd'⟩ := Obj.data_mapSeq hd (·.push (Value.str q.1 q.2))
  refine ⟨_, Heap.get?_update_self _ ho (Obj.isFreed_of_seq hd'), (Obj.cls_mapSeq ..).trans hc, n', ?_⟩
  rw [hd']
  simp [strValues]

theorem joinTotal_small {l : List (Str × Tok)} (h : (cat l).size ≤ 1000000) : tooLong ((l.map (·.1)).toArray.foldl (fun a p => a + p.length + (⟨#[]⟩ : Str).length) 0) = false := by
  have e : ∀ (l : List (Str × Tok)) (a : Array Nat) (k : Nat), k = a.size → (l.map (·.1)).foldl (fun a p => a + p.length + (⟨#[]⟩ : Str).length) k = (l.foldl (fun a q => a ++ q.1.cps) a).size := by
    intro l
    induction l with
    | nil => intro a k hk; simpa using hk
    | cons q r ih =>
      intro a k hk
      simp only [List.map_cons, List.foldl_cons]
      refine ih _ _ ?_
      simp [Str.length, hk]
  have e' := e l #[] 0 rfl
  have e2 : (l.map (·.1)).toArray.foldl (fun a p => a + p.length + (⟨#[]⟩ : Str).length) 0 = (cat l).size := by
    rw [List.foldl_toArray']
    · exact e'
    · simp
  rw [e2]
  have : (1000000 : Nat) ≤ sizeLine := by decide
  simp [tooLong]; omega

/-- the pieces are put together -/
theorem wp_joinPieces {l : Addr} {ps : List (Str × Tok)} {tk : Tok} {Q : Value → Shared → Prop} (hl : s.heap.IsList l (strValues ps).toArray) (hz : (cat ps).size ≤ 1000000)
    (h : ∀ tk' tk'', Q (.str ⟨cat ps⟩ tk') { s with toks := tk'' }) : wpAny (model prog w) A (call (.builtin "str.join") [.str ⟨#[]⟩ tk, .ref l]) Q E s := by
  refine call_meets F.slot_str_join (T := "str") ?_ F.entry_str_join (F.args_str_join_2 _ _) (meets_str_join_list ⟨#[]⟩ tk l ps (joinTotal_small hz)) ⟨hl, ?_⟩
  · rfl
  have hs : (1000000 : Nat) ≤ sizeLine := by decide
  have gen : (Made.str (glued ⟨#[]⟩ (ps.map (·.1)))).post (fun v s' => wants Q E (.ok (.ret v)) s') s := by
    rw [glued_empty]
    exact ⟨by show (cat ps).size ≤ _; omega, h _ _⟩
  match ps, gen, h with
  | [], gen, _ => exact gen
  | [q], _, h =>
    have := h q.2 s.toks
    have e : cat [q] = q.1.cps := by simp [cat]
    rw [e] at this
    exact this
  | q :: r :: ps, gen, _ => exact gen
end
end Mine
end
section -- R5
namespace Mine
open PySem PySem.Sre PySem.Builtin PySem.Builtin.Re PySem.Builtin.Str
set_option maxRecDepth 100000
section
variable {prog : Program} {w : World} {A : Around} {E : Value → Shared → Prop} {s : Shared}

theorem codeAny_subLoop {p l : Addr} {x rep : Str} {t tr : Tok} {code : Array Nat} {R : Result → Shared → Prop} {d : Nat} {out : Array Nat} (hx : x.cps.size ≤ 400000) (run : SubRun code x.cps rep.cps d out) {h₀ : Heap} (P₀ : Pat h₀ p code) (hl : h₀.get? l = none) :
    ∀ (n : Nat) (must : Bool) (s : Shared) (ps : List (Str × Tok)) (t1 t2 t3 : Tok), (∀ b o, h₀.get? b = some o → s.heap.get? b = some o) → s.heap.IsList l (strValues ps).toArray → ps.length + 2 * (x.cps.size - d) ≤ 900000 → (cat ps).size + out.size ≤ 1000000 → d ≤ x.cps.size →
      (∀ h' tk tk', (∀ b o, b ≠ l → s.heap.get? b = some o → h'.get? b = some o) → R (.ok (.ret (.str ⟨cat ps ++ out⟩ tk'))) { s with heap := h', toks := tk }) →
      codeAny (model prog w) A (.builtin "re.Pattern.sub.loop" ⟨[.ref p, .str x t, .str rep tr, .int 0 0, .int 0 0, .int n t1, .int d t2, .int d t3, .bool must, .ref l, .bool false], []⟩) R s := by
  induction run with
  | @miss d hno =>
    intro n must s ps t1 t2 t3 keep L hn1 hn2 hd hR
    refine codeAny_builtin entry_subLoop ?_
    rw [Around.under_plainId plain_subLoop _]
    unfold Builtin.«re.Pattern.sub.loop»
    dsimp only
    refine wpAny_bind (wp_wholeTarget (P₀.keeps keep) ?_)
    rw [if_pos (show ((0 : Int) == 0) = true from rfl)]
    refine wpAny_bind (wpAny_of_eq (a := ()) rfl ?_)
    rw [if_neg (show ¬ ((((0 : Int) != 0) && decide ((n : Int) ≥ 0)) = true) by simp)]
    refine wpAny_bind ?_
    obtain ⟨k, hk, c⟩ := hno must
    refine wp_runToEnd_miss hk c ?_
    dsimp only
    by_cases hlt : ((d : Int)).toNat < (target p x t code).lim
    · rw [if_pos hlt]
      show wpAny _ _ (mkStr ⟨x.cps.extract d x.cps.size⟩ >>= _) _ _ _
      have hsl : (1000000 : Nat) ≤ sizeLine := by decide
      refine wpAny_bind (wpAny_mkStr ?_ (by show (x.cps.extract d x.cps.size).size ≤ _; simp; omega))
      refine wpAny_bind (wp_push (q := (⟨x.cps.extract d x.cps.size⟩, s.toks)) (s := { s with toks := s.toks + 1 }) L (by omega) fun h' L' hk' => ?_)
      have hcat := cat_snoc ps (⟨x.cps.extract d x.cps.size⟩, s.toks)
      dsimp only at hcat
      show wpAny _ _ (mkStr ⟨x.cps.extract 0 0⟩ >>= _) _ _ _
      refine wpAny_bind (wpAny_mkStr ?_ (by show (x.cps.extract 0 0).size ≤ _; simp))
      have hj : (⟨x.cps.extract 0 0⟩ : Str) = ⟨#[]⟩ := by simp
      obtain ⟨o, ho, hc, nn, hd'⟩ := id L'
      refine wpAny_bind (wpAny_seqItems ho hd' ?_)
      by_cases he : (((some (strValues (ps ++ [(⟨x.cps.extract d x.cps.size⟩, s.toks)])).toArray).getD #[]).isEmpty) = true
      · rw [if_pos he]
        have hnil : (ps ++ [(⟨x.cps.extract d x.cps.size⟩, s.toks)]) = [] := by
          have : (strValues (ps ++ [(⟨x.cps.extract d x.cps.size⟩, s.toks)])).toArray = #[] := by simpa using he
          have : strValues (ps ++ [(⟨x.cps.extract d x.cps.size⟩, s.toks)]) = [] := by simpa using this
          simpa [strValues] using this
        refine wpAny_bind (wpAny_pure ?_)
        rw [if_neg (by decide)]
        refine wpAny_pure ?_
        have e : cat (ps ++ [(⟨x.cps.extract d x.cps.size⟩, s.toks)]) = #[] := by rw [hnil]; rfl
        rw [hj]
        have := hR h' (s.toks + 1 + 1) (s.toks + 1) hk'
        rw [← hcat, e] at this
        exact this
      · rw [if_neg he]
        rw [hj]
        refine wpAny_bind (wp_joinPieces L' (by rw [hcat]; simpa using hn2) fun tk' tk'' => ?_)
        rw [if_neg (by decide)]
        refine wpAny_pure ?_
        have := hR h' tk'' tk' hk'
        rw [← hcat] at this
        exact this
    · rw [if_neg hlt]
      have hde : d = x.cps.size := by
        have : ¬ d < x.cps.size := hlt
        omega
      have hcat : cat ps = cat ps ++ x.cps.extract d x.cps.size := by rw [hde]; simp
      show wpAny _ _ (mkStr ⟨x.cps.extract 0 0⟩ >>= _) _ _ _
      refine wpAny_bind (wpAny_mkStr ?_ (by show (x.cps.extract 0 0).size ≤ _; simp))
      have hj : (⟨x.cps.extract 0 0⟩ : Str) = ⟨#[]⟩ := by simp
      obtain ⟨o, ho, hc, nn, hd'⟩ := id L
      refine wpAny_bind (wpAny_seqItems ho hd' ?_)
      by_cases he : (((some (strValues ps).toArray).getD #[]).isEmpty) = true
      · rw [if_pos he]
        have hnil : ps = [] := by
          have : (strValues ps).toArray = #[] := by simpa using he
          have : strValues ps = [] := by simpa using this
          simpa [strValues] using this
        refine wpAny_bind (wpAny_pure ?_)
        rw [if_neg (by decide)]
        refine wpAny_pure ?_
        have e : cat ps = #[] := by rw [hnil]; rfl
        rw [hj]
        have := hR s.heap (s.toks + 1) s.toks (fun b o _ e => e)
        rw [← hcat, e] at this
        exact this
      · rw [if_neg he]
        rw [hj]
        refine wpAny_bind (wp_joinPieces L (by omega) fun tk' tk'' => ?_)
        rw [if_neg (by decide)]
        refine wpAny_pure ?_
        have := hR s.heap tk'' tk' (fun b o _ e => e)
        rw [← hcat] at this
        exact this
  | @hit d b e out hf hdb hbe hes run ih =>
    intro n must s ps t1 t2 t3 keep L hn1 hn2 hd hR
    refine codeAny_builtin entry_subLoop ?_
    rw [Around.under_plainId plain_subLoop _]
    unfold Builtin.«re.Pattern.sub.loop»
    dsimp only
    refine wpAny_bind (wp_wholeTarget (P₀.keeps keep) ?_)
    rw [if_pos (show ((0 : Int) == 0) = true from rfl)]
    refine wpAny_bind (wpAny_of_eq (a := ()) rfl ?_)
    rw [if_neg (show ¬ ((((0 : Int) != 0) && decide ((n : Int) ≥ 0)) = true) by simp)]
    refine wpAny_bind ?_
    obtain ⟨k, hk, c⟩ := hf must
    refine wp_runToEnd_hit hk c fun m hm => ?_
    obtain ⟨_, hms, hmh⟩ := hm
    dsimp only
    rw [hms, hmh]
    have hsl : (1000000 : Nat) ≤ sizeLine := by decide
    have hsz : (x.cps.extract d b).size = b - d := by simp; omega
    have hn2' : (cat ps).size + ((b - d) + rep.cps.size + out.size) ≤ 1000000 := by
      have : (x.cps.extract d b ++ rep.cps ++ out).size = (b - d) + rep.cps.size + out.size := by simp only [Array.size_append, hsz]
      omega
    by_cases hlt : ((d : Int)).toNat < b
    · rw [if_pos hlt]
      have hdb' : d < b := hlt
      show wpAny _ _ (mkStr ⟨x.cps.extract d b⟩ >>= _) _ _ _
      refine wpAny_bind (wpAny_mkStr ?_ (by show (x.cps.extract d b).size ≤ _; omega))
      refine wpAny_bind (wp_push (q := (⟨x.cps.extract d b⟩, s.toks)) (s := { s with toks := s.toks + 1 }) L (by omega) fun h' L' hk' => ?_)
      rw [if_pos (show ((0 : Int) == 0) = true from rfl)]
      refine wpAny_bind (wpAny_pure ?_)
      rw [if_pos (show ((Value.str rep tr) != Value.none) = true from rfl)]
      refine wpAny_bind (wp_push (q := (rep, tr)) L' (by simp; omega) fun h'' L'' hk'' => ?_)
      refine wpAny_pure ⟨plainId_quiet plain_subLoop _, ?_⟩
      have keep'' : ∀ c o, h₀.get? c = some o → h''.get? c = some o := fun c o e => by
        have hc : c ≠ l := fun q => by rw [q, hl] at e; cases e
        exact hk'' c o hc (hk' c o hc (keep c o e))
      refine ih (n + 1) _ { s with heap := h'', toks := s.toks + 1 } ((ps ++ [(⟨x.cps.extract d b⟩, s.toks)]) ++ [(rep, tr)]) 0 0 0 keep'' L'' (by simp; omega) (by rw [cat_snoc, cat_snoc]; simp only [Array.size_append, hsz]; omega) hes fun h₃ tk tk' hk₃ => ?_
      have := hR h₃ tk tk' fun b o hb e => hk₃ b o hb (hk'' b o hb (hk' b o hb e))
      rw [cat_snoc, cat_snoc]
      simpa using this
    · rw [if_neg hlt]
      have hdb' : d = b := by
        have : ¬ d < b := hlt
        omega
      have hnil : x.cps.extract d b = #[] := by rw [hdb']; simp; omega
      rw [if_pos (show ((0 : Int) == 0) = true from rfl)]
      refine wpAny_bind (wpAny_pure ?_)
      rw [if_pos (show ((Value.str rep tr) != Value.none) = true from rfl)]
      refine wpAny_bind (wp_push (q := (rep, tr)) L (by omega) fun h'' L'' hk'' => ?_)
      refine wpAny_pure ⟨plainId_quiet plain_subLoop _, ?_⟩
      have keep'' : ∀ c o, h₀.get? c = some o → h''.get? c = some o := fun c o e => by
        have hc : c ≠ l := fun q => by rw [q, hl] at e; cases e
        exact hk'' c o hc (keep c o e)
      refine ih (n + 1) _ { s with heap := h'' } (ps ++ [(rep, tr)]) 0 0 0 keep'' L'' (by simp; omega) (by rw [cat_snoc]; simp only [Array.size_append]; omega) hes fun h₃ tk tk' hk₃ => ?_
      have := hR h₃ tk tk' fun b o hb e => hk₃ b o hb (hk'' b o hb e)
      rw [cat_snoc]
      rw [hnil] at this
      simpa using this
end
end Mine
end
section -- R6
namespace Mine
open PySem PySem.Sre PySem.Builtin PySem.Builtin.Re PySem.Builtin.Str
set_option maxRecDepth 100000

theorem plainAttrs_pat : PlainAttrs "re.Pattern" :=
  ⟨⟨"object.__getattribute__", by rw [typeLookup_type, builtinLookup_eq_fast]; kernel_rfl, by decide +kernel⟩, by rw [typeLookup_type, builtinLookup_eq_fast]; kernel_rfl⟩
theorem slot_sub : Slot "re.Pattern" "sub" "re.Pattern.sub" :=
  .of (owner := "re.Pattern") (n := "sub") (by rw [typeLookup_type, builtinLookup_eq_fast]; kernel_rfl) (by decide +kernel) (by decide +kernel) (by decide +kernel)
    (by first | exact .inl (by decide +kernel) | exact .inr (by decide +kernel)) (by rw [isSubtype_type]; kernel_rfl)
theorem type_sub : typeOf (.builtin "re.Pattern.sub") = pure (.type "method_descriptor") := by show builtinType _ = _; rw [builtinType_eq_fast]; kernel_rfl
theorem entry_sub : entryFor table "re.Pattern.sub" = some Builtin.«re.Pattern.sub» := entryFor_of_tree (by kernel_rfl)
theorem args_sub_3 (a b c : Value) : argsOk "re.Pattern.sub" ⟨[a, b, c], []⟩ := by
  unfold argsOk; kernel_rfl
theorem noCall_str : typeLookup (.type "str") "__call__" = pure none := by rw [typeLookup_type, builtinLookup_eq_fast]; kernel_rfl

section
variable {prog : Program} {w : World} {A : Around} {E : Value → Shared → Prop} {s : Shared}
theorem Pat.typeIs {p : Addr} {code : Array Nat} (P : Pat s.heap p code) : s.TypeIs (.ref p) "re.Pattern" :=
  let ⟨op, _, _, _, _, _, a1, a2, _⟩ := P; ⟨op, a1, a2⟩

theorem call_sub {p : Addr} {x rep : Str} {t tr : Tok} {code : Array Nat} {out : Array Nat} {Q : Value → Shared → Prop} (P : Pat s.heap p code) (hx : x.cps.size ≤ 400000) (hr : rep.cps.contains 92 = false)
    (run : SubRun code x.cps rep.cps 0 out) (ho : out.size ≤ 1000000)
    (h : ∀ h' tk tk', (∀ b o, s.heap.get? b = some o → h'.get? b = some o) → Q (.str ⟨out⟩ tk') { s with heap := h', toks := tk }) :
    wpAny (model prog w) A (call (.builtin "re.Pattern.sub") [.ref p, .str rep tr, .str x t]) Q E s := by
  refine wpAny_call (codeAny_call_builtin slot_sub.plain entry_sub (slot_sub.check _ _ _ _ _ _ _ _ P.typeIs (args_sub_3 _ _ _) ?_))
  unfold Builtin.«re.Pattern.sub» reSubstitute
  dsimp only
  refine wpAny_bind (wpAny_of_eq (a := [some (.str rep tr), some (.str x t), none]) rfl ?_)
  dsimp only
  refine wpAny_bind (wpAny_pure ?_)
  refine wpAny_bind (wpAny_specialOf (T := "str") rfl noCall_str ?_)
  rw [if_neg (by decide)]
  refine wpAny_bind (wpAny_of_eq (a := some rep) rfl ?_)
  dsimp only
  refine wpAny_bind (wpAny_pure ?_)
  rw [if_neg (by decide), hr]
  rw [if_pos (by decide)]
  refine wpAny_bind (wpAny_pure ?_)
  refine wpAny_bind (wpAny_holding (wp_wholeTarget P ?_))
  rw [if_neg (by simp)]
  refine wpAny_bind (wpAny_newObj_type ?_)
  refine wpAny_pure ⟨plainId_quiet plain_subLoop _, ?_⟩
  have hnew : s.heap.get? s.heap.objs.size = none := by
    cases e : s.heap.get? s.heap.objs.size with
    | none => rfl
    | some o => exact absurd (Heap.lt_size e) (Nat.lt_irrefl _)
  refine codeAny_subLoop (ps := []) hx run P hnew 0 false _ 0 0 0 (fun b o e => Heap.get?_push_of_some _ e) ⟨_, Heap.get?_push_size _ rfl, rfl, 0, rfl⟩ (by simp; omega) (by simp [cat]; exact ho) (Nat.zero_le _) fun h' tk tk' hk => ?_
  have := h h' tk tk' fun b o e => hk b o (fun q => by rw [q, hnew] at e; cases e) (Heap.get?_push_of_some _ e)
  simpa [cat] using this
end
end Mine
end
section -- R7
namespace Mine
open PySem PySem.Sre

/-- the rest of a mail behind a row -/
def tailE (e : List Nat) : List (List Nat) → List Nat
  | [] => []
  | r :: rs => e ++ r ++ tailE e rs
def joinE (e : List Nat) : List (List Nat) → List Nat
  | [] => []
  | r :: rs => r ++ tailE e rs

def NoEnd (r : List Nat) : Prop := ∀ c ∈ r, c ≠ 10 ∧ c ≠ 13
def EndOk (e : List Nat) : Prop := e = [10] ∨ e = [13] ∨ e = [13, 10]

theorem getD_arr (l : List Nat) (i : Nat) : l.toArray[i]?.getD 0 = l[i]?.getD 0 := by simp

theorem noEnd_at {r : List Nat} (h : NoEnd r) (i : Nat) : ¬ isEnd (r[i]?.getD 0) := by
  cases e : r[i]? with
  | none => simp [isEnd]
  | some c =>
    have := h c (List.mem_of_getElem? e)
    simp only [Option.getD_some, isEnd]; omega

theorem extract_arr (l : List Nat) (a b : Nat) : l.toArray.extract a b = ((l.drop a).take (b - a)).toArray := by
  simp

theorem finds2 {text : Array Nat} {s b e : Nat} (hs : s ≤ b) (hb : b < text.size) (hc : isEnd (text[b]?.getD 0)) (hno : ∀ j, s ≤ j → j < b → ¬ isEnd (text[j]?.getD 0)) (he : e = b + endLen text text.size b) : Finds code2 text s b e := fun must => by
  obtain ⟨k, hk, c⟩ := search2_hit (must := must) hs hb hc hno
  exact ⟨k, by omega, he ▸ c⟩
theorem nofind2 {text : Array Nat} {s : Nat} (hno : ∀ j, s ≤ j → j < text.size → ¬ isEnd (text[j]?.getD 0)) : NoFind code2 text s := fun must => by
  obtain ⟨k, hk, c⟩ := search2_miss (must := must) hno
  exact ⟨k, by omega, c⟩
theorem finds1 {text : Array Nat} {s b : Nat} (hz : text.size ≤ 1000000) (hs : s ≤ b) (hat : At1 text text.size b) (hno : ∀ j, s ≤ j → j < b → ¬ At1 text text.size j) : Finds code1 text s b (b + 1) := fun must => by
  obtain ⟨k, hk, c⟩ := search1_hit (must := must) hs hat hno
  exact ⟨k, by omega, c⟩
theorem nofind1 {text : Array Nat} {s : Nat} (hz : text.size ≤ 1000000) (hno : ∀ j, s ≤ j → j ≤ text.size → ¬ At1 text text.size j) : NoFind code1 text s := fun must => by
  obtain ⟨k, hk, c⟩ := search1_miss (must := must) hno
  exact ⟨k, by omega, c⟩

theorem endLen_at {pre r e rest : List Nat} (he : EndOk e) (hr : ∀ c, rest.head? = some c → c ≠ 10) :
    isEnd ((pre ++ r ++ (e ++ rest)).toArray[pre.length + r.length]?.getD 0) ∧ endLen (pre ++ r ++ (e ++ rest)).toArray (pre ++ r ++ (e ++ rest)).toArray.size (pre.length + r.length) = e.length := by
  have at0 : ∀ i, (pre ++ r ++ (e ++ rest)).toArray[pre.length + r.length + i]?.getD 0 = (e ++ rest)[i]?.getD 0 := fun i => by
    rw [getD_arr, List.getElem?_append_right (by simp <;> omega)]
    congr 2; simp <;> omega
  have h0 := at0 0
  have h1 := at0 1
  rw [Nat.add_zero] at h0
  unfold endLen
  rw [h0, h1]
  have hsz : (pre ++ r ++ (e ++ rest)).toArray.size = pre.length + r.length + e.length + rest.length := by simp; omega
  rw [hsz]
  rcases he with rfl | rfl | rfl
  · simp [isEnd]
  · refine ⟨by simp [isEnd], ?_⟩
    rw [if_neg]
    · rfl
    · rintro ⟨_, hl, hc⟩
      cases rest with
      | nil => simp at hc
      | cons c cs =>
        exact hr c rfl (by simpa using hc)
  · refine ⟨by simp [isEnd], ?_⟩
    rw [if_pos]
    · rfl
    · exact ⟨by simp, by simp; omega, by simp⟩

theorem subrun2 {e : List Nat} (he : EndOk e) : ∀ (rs : List (List Nat)) (pre r : List Nat), NoEnd r → (∀ x ∈ rs, NoEnd x ∧ x ≠ []) →
    SubRun code2 (pre ++ r ++ tailE e rs).toArray #[13, 10] pre.length (r ++ tailE [13, 10] rs).toArray := by
  intro rs
  induction rs with
  | nil =>
    intro pre r hr _
    have hmiss : NoFind code2 (pre ++ r ++ tailE e []).toArray pre.length := nofind2 fun j h1 h2 => by
      rw [getD_arr]
      simp only [tailE, List.append_nil]
      rw [List.getElem?_append_right h1]
      exact noEnd_at hr _
    have := SubRun.miss (rep := #[13, 10]) hmiss
    have e2 : ((pre ++ r ++ tailE e []).toArray).extract pre.length ((pre ++ r ++ tailE e []).toArray).size = (r ++ tailE [13, 10] []).toArray := by
      rw [extract_arr]; simp [tailE]
    rw [e2] at this
    exact this
  | cons r' rs ih =>
    intro pre r hr hrs
    have hr' := hrs r' (.head _)
    have hhead : ∀ c, (r' ++ tailE e rs).head? = some c → c ≠ 10 := fun c hc => by
      cases r' with
      | nil => exact absurd rfl hr'.2
      | cons a as =>
        simp at hc
        subst hc
        exact (hr'.1 a (.head _)).1
    have hform : (pre ++ r ++ tailE e (r' :: rs)) = pre ++ r ++ (e ++ (r' ++ tailE e rs)) := by simp [tailE]
    obtain ⟨hc, hlen⟩ := endLen_at (pre := pre) (r := r) (rest := r' ++ tailE e rs) he hhead
    rw [← hform] at hc hlen
    have hf : Finds code2 (pre ++ r ++ tailE e (r' :: rs)).toArray pre.length (pre.length + r.length) (pre.length + r.length + e.length) := by
      refine finds2 (by omega) ?_ hc ?_ (by rw [hlen])
      · have : e.length ≠ 0 := by rcases he with rfl | rfl | rfl <;> decide
        simp [hform]; omega
      · intro j h1 h2
        rw [getD_arr, List.append_assoc, List.getElem?_append_right h1, List.getElem?_append_left (by omega)]
        exact noEnd_at hr _
    have hform2 : (pre ++ r ++ tailE e (r' :: rs)) = (pre ++ r ++ e) ++ r' ++ tailE e rs := by simp [tailE]
    have run' := ih (pre ++ r ++ e) r' hr'.1 (fun x hx => hrs x (.tail _ hx))
    rw [← hform2] at run'
    have hl : (pre ++ r ++ e).length = pre.length + r.length + e.length := by simp; omega
    rw [hl] at run'
    have hee : 0 < e.length := by rcases he with rfl | rfl | rfl <;> decide
    have := SubRun.hit hf (by omega) (by omega) (by simp [hform]; omega) run'
    have e2 : ((pre ++ r ++ tailE e (r' :: rs)).toArray).extract pre.length (pre.length + r.length) = r.toArray := by
      rw [extract_arr]; simp
    rw [e2] at this
    have e3 : r.toArray ++ #[13, 10] ++ (r' ++ tailE [13, 10] rs).toArray = (r ++ tailE [13, 10] (r' :: rs)).toArray := by simp [tailE]
    rw [e3] at this
    exact this

theorem subrun2_all {e : List Nat} (he : EndOk e) (rs : List (List Nat)) (hrs : ∀ x ∈ rs, NoEnd x ∧ x ≠ []) : SubRun code2 (joinE e rs).toArray #[13, 10] 0 (joinE [13, 10] rs).toArray := by
  cases rs with
  | nil => exact subrun2 he [] [] [] (fun c hc => nomatch hc) (fun x hx => nomatch hx)
  | cons r rs => exact subrun2 he rs [] r (hrs r (.head _)).1 (fun x hx => hrs x (.tail _ hx))

/-- rows for pattern 1: a dot ahead, no end of line -/
def DotRow (x : List Nat) : Prop := ∃ t, x = 46 :: t ∧ NoEnd t

theorem last_at {pre : List Nat} (h : pre ≠ []) (rest : List Nat) : (pre ++ rest).toArray[pre.length - 1]?.getD 0 = pre.getLast h := by
  have hl : 0 < pre.length := List.length_pos_iff.mpr h
  rw [getD_arr, List.getElem?_append_left (by omega), ← List.getLast?_eq_getElem?, List.getLast?_eq_some_getLast h]
  rfl

theorem get_app {a b : List Nat} {i k : Nat} (h : i = a.length + k) : (a ++ b)[i]? = b[k]? := by
  rw [h, List.getElem?_append_right (by omega)]; congr 1; omega

theorem noAt1 {pre tl rest : List Nat} (h : pre ≠ []) (hl : pre.getLast h ≠ 10) (ht : NoEnd tl) {lim j : Nat} (h1 : pre.length ≤ j) (h2 : j ≤ pre.length + tl.length) : ¬ At1 (pre ++ tl ++ rest).toArray lim j := by
  rintro ⟨h0 | h0, _, _⟩
  · have hp : 0 < pre.length := List.length_pos_iff.mpr h
    omega
  · have hp : 0 < pre.length := List.length_pos_iff.mpr h
    by_cases hj : j = pre.length
    · subst hj
      rw [List.append_assoc, last_at h] at h0
      exact hl h0
    · rw [getD_arr, List.append_assoc, List.getElem?_append_right (by omega), List.getElem?_append_left (by omega)] at h0
      exact noEnd_at ht _ (.inl h0)

theorem subrun1 : ∀ (rs : List (List Nat)) (pre tl : List Nat) (h : pre ≠ []), pre.getLast h ≠ 10 → NoEnd tl → (∀ x ∈ rs, DotRow x) → (pre ++ tl ++ tailE [13, 10] rs).length ≤ 1000000 →
    SubRun code1 (pre ++ tl ++ tailE [13, 10] rs).toArray #[46, 46] pre.length (tl ++ tailE [13, 10] (rs.map (46 :: ·))).toArray := by
  intro rs
  induction rs with
  | nil =>
    intro pre tl h hl ht _ hz
    have hmiss : NoFind code1 (pre ++ tl ++ tailE [13, 10] []).toArray pre.length := nofind1 (by simpa using hz) fun j h1 h2 =>
      noAt1 h hl ht h1 (by simp [tailE] at h2; omega)
    have := SubRun.miss (rep := #[46, 46]) hmiss
    have e2 : ((pre ++ tl ++ tailE [13, 10] []).toArray).extract pre.length ((pre ++ tl ++ tailE [13, 10] []).toArray).size = (tl ++ tailE [13, 10] (([] : List (List Nat)).map (46 :: ·))).toArray := by
      rw [extract_arr]; simp [tailE]
    rw [e2] at this
    exact this
  | cons r rs ih =>
    intro pre tl h hl ht hrs hz
    obtain ⟨t, rfl, hnt⟩ := hrs r (.head _)
    have hform : pre ++ tl ++ tailE [13, 10] ((46 :: t) :: rs) = pre ++ tl ++ ([13, 10] ++ (46 :: t) ++ tailE [13, 10] rs) := rfl
    have hform3 : pre ++ tl ++ tailE [13, 10] ((46 :: t) :: rs) = (pre ++ tl ++ [13]) ++ ([10] ++ (46 :: t) ++ tailE [13, 10] rs) := by simp [tailE]
    have hform2 : pre ++ tl ++ tailE [13, 10] ((46 :: t) :: rs) = (pre ++ tl ++ [13, 10, 46]) ++ t ++ tailE [13, 10] rs := by simp [tailE]
    have hat : At1 (pre ++ tl ++ tailE [13, 10] ((46 :: t) :: rs)).toArray (pre ++ tl ++ tailE [13, 10] ((46 :: t) :: rs)).toArray.size (pre.length + tl.length + 2) := by
      refine ⟨.inr ?_, by simp [hform]; omega, ?_⟩
      · rw [hform3, getD_arr, get_app (k := 0) (by simp; omega)]
        rfl
      · rw [hform3, getD_arr, get_app (k := 1) (by simp; omega)]
        rfl
    have hf : Finds code1 (pre ++ tl ++ tailE [13, 10] ((46 :: t) :: rs)).toArray pre.length (pre.length + tl.length + 2) (pre.length + tl.length + 2 + 1) := by
      refine finds1 (by simpa using hz) (by omega) hat fun j h1 h2 => ?_
      by_cases hj : j ≤ pre.length + tl.length
      · exact noAt1 h hl ht h1 hj
      · have hj' : j = pre.length + tl.length + 1 := by omega
        subst hj'
        rintro ⟨h0 | h0, _, _⟩
        · omega
        · rw [hform, getD_arr, get_app (k := 0) (by simp)] at h0
          cases h0
    have run' := ih (pre ++ tl ++ [13, 10, 46]) t (by simp) (by simp) hnt (fun x hx => hrs x (.tail _ hx)) (by rw [← hform2]; exact hz)
    rw [← hform2] at run'
    have hlen : (pre ++ tl ++ [13, 10, 46]).length = pre.length + tl.length + 2 + 1 := by simp <;> omega
    rw [hlen] at run'
    have := SubRun.hit hf (by omega) (by omega) (by simp [hform]; omega) run'
    have e2 : ((pre ++ tl ++ tailE [13, 10] ((46 :: t) :: rs)).toArray).extract pre.length (pre.length + tl.length + 2) = (tl ++ [13, 10]).toArray := by
      rw [extract_arr, hform]
      congr 1
      rw [List.append_assoc, List.drop_left, show pre.length + tl.length + 2 - pre.length = (tl ++ [13, 10]).length by simp; omega, show tl ++ ([13, 10] ++ (46 :: t) ++ tailE [13, 10] rs) = (tl ++ [13, 10]) ++ ((46 :: t) ++ tailE [13, 10] rs) by simp, List.take_left]
    rw [e2] at this
    have e3 : (tl ++ [13, 10]).toArray ++ #[46, 46] ++ (t ++ tailE [13, 10] (rs.map (46 :: ·))).toArray = (tl ++ tailE [13, 10] (((46 :: t) :: rs).map (46 :: ·))).toArray := by simp [tailE]
    rw [e3] at this
    exact this

theorem subrun1_all (rs : List (List Nat)) (hrs : ∀ x ∈ rs, DotRow x) (hz : (joinE [13, 10] rs).length ≤ 1000000) : SubRun code1 (joinE [13, 10] rs).toArray #[46, 46] 0 (joinE [13, 10] (rs.map (46 :: ·))).toArray := by
  cases rs with
  | nil =>
    have hmiss : NoFind code1 (joinE [13, 10] []).toArray 0 := nofind1 (by simp [joinE]) fun j _ h2 => by
      rintro ⟨_, h3, _⟩
      simp [joinE] at h3
    have := SubRun.miss (rep := #[46, 46]) hmiss
    simpa [joinE] using this
  | cons r rs =>
    obtain ⟨t, rfl, hnt⟩ := hrs r (.head _)
    have hat : At1 (joinE [13, 10] ((46 :: t) :: rs)).toArray (joinE [13, 10] ((46 :: t) :: rs)).toArray.size 0 := ⟨.inl rfl, by simp [joinE], by simp [joinE]⟩
    have hf : Finds code1 (joinE [13, 10] ((46 :: t) :: rs)).toArray 0 0 (0 + 1) := finds1 (by simpa using hz) (by omega) hat fun j h1 h2 => by omega
    have run' := subrun1 rs [46] t (by simp) (by simp) hnt (fun x hx => hrs x (.tail _ hx)) (by simpa [joinE] using hz)
    have := SubRun.hit (text := (joinE [13, 10] ((46 :: t) :: rs)).toArray) hf (by omega) (by omega) (by simp [joinE]) (by simpa [joinE] using run')
    have e3 : (joinE [13, 10] ((46 :: t) :: rs)).toArray.extract 0 0 ++ #[46, 46] ++ (t ++ tailE [13, 10] (rs.map (46 :: ·))).toArray = (joinE [13, 10] (((46 :: t) :: rs).map (46 :: ·))).toArray := by simp [joinE]
    simpa [joinE] using this
end Mine
end
section -- D0
namespace Mine
open PySem PySem.W
set_option maxRecDepth 100000

/-- a table: rows' names and counts -/
abbrev Tb := List (Str × Int)

inductive IsT : List (Str × Value) → Tb → Prop
  | nil : IsT [] []
  | cons {k : Str} {c : Int} {t : Tok} {r : List (Str × Value)} {T : Tb} : IsT r T → IsT ((k, .int c t) :: r) ((k, c) :: T)

theorem IsT.length {kvs T} (h : IsT kvs T) : kvs.length = T.length := by
  induction h with
  | nil => rfl
  | cons _ ih => simp [ih]
theorem IsT.keys {kvs T} (h : IsT kvs T) : kvs.map (·.1) = T.map (·.1) := by
  induction h with
  | nil => rfl
  | cons _ ih => simp [ih]
theorem IsT.at {kvs T} (h : IsT kvs T) : ∀ {i : Nat} {k : Str} {v : Value}, kvs[i]? = some (k, v) → ∃ c t, v = .int c t ∧ T[i]? = some (k, c) := by
  induction h with
  | nil => intro i k v e; simp at e
  | @cons k' c t r T hr ih =>
    intro i k v e
    cases i with
    | zero => simp at e; obtain ⟨rfl, rfl⟩ := e; exact ⟨c, t, rfl, by simp⟩
    | succ i => simp at e; simpa using ih e

def get (T : Tb) (k : Str) : Option Int := (T.find? fun p => p.1 = k).map (·.2)
def put (T : Tb) (k : Str) (c : Int) : Tb := if T.any (fun p => p.1 = k) then T.map (fun p => if p.1 = k then (p.1, c) else p) else T ++ [(k, c)]

theorem IsT.any {kvs T} (h : IsT kvs T) (k : Str) : kvs.any (fun p => p.1 = k) = T.any (fun p => p.1 = k) := by
  induction h with
  | nil => rfl
  | cons _ ih => simp [ih]
theorem IsT.append {kvs T} (h : IsT kvs T) (k : Str) (c : Int) (t : Tok) : IsT (kvs ++ [(k, .int c t)]) (T ++ [(k, c)]) := by
  induction h with
  | nil => exact .cons .nil
  | cons _ ih => exact .cons ih
theorem IsT.store {kvs T} (h : IsT kvs T) (k : Str) (c : Int) (t : Tok) : IsT (stored kvs k (.int c t)) (put T k c) := by
  unfold stored put
  rw [h.any k]
  cases T.any (fun p => p.1 = k) with
  | false => simpa using h.append k c t
  | true =>
    simp only [if_true]
    induction h with
    | nil => exact .nil
    | @cons k' c' t' r T hr ih =>
      simp only [List.map_cons]
      by_cases e : k' = k
      · subst e; simp only [if_true]; exact .cons ih
      · simp only [e, if_false]; exact .cons ih
theorem IsT.get_some {kvs T} (h : IsT kvs T) {k : Str} {c : Int} (e : get T k = some c) : ∃ t, valueAt kvs k = some (.int c t) := by
  induction h with
  | nil => simp [get] at e
  | @cons k' c' t' r T hr ih =>
    unfold get valueAt at *
    simp only [List.find?_cons] at e ⊢
    by_cases q : k' = k
    · simp [q] at e ⊢; exact e
    · simp only [q, decide_false] at e ⊢; exact ih e
theorem IsT.get_none {kvs T} (h : IsT kvs T) {k : Str} (e : get T k = none) : valueAt kvs k = none := by
  induction h with
  | nil => rfl
  | @cons k' c' t' r T hr ih =>
    unfold get valueAt at *
    simp only [List.find?_cons] at e ⊢
    by_cases q : k' = k
    · simp [q] at e
    · simp only [q, decide_false] at e ⊢; exact ih e

section
variable (prog : Program) (w : World)
def Tab (h : Heap) (a : Addr) (T : Tb) : Prop := ∃ kvs, h.DictOf (strKind prog w) a kvs ∧ IsT kvs T
end
section
variable {prog : Program} {w : World}
theorem Tab.keep {h h' : Heap} {a : Addr} {T : Tb} (x : Tab prog w h a T) (hk : ∀ o, h.get? a = some o → h'.get? a = some o) : Tab prog w h' a T :=
  let ⟨kvs, d, i⟩ := x; ⟨kvs, d.at hk, i⟩
theorem Tab.keeps {h h' : Heap} {a : Addr} {T : Tb} (x : Tab prog w h a T) (hk : ∀ b o, h.get? b = some o → h'.get? b = some o) : Tab prog w h' a T := x.keep (hk a)
theorem Tab.typeIs {s : Shared} {a : Addr} {T : Tb} (x : Tab prog w s.heap a T) : s.TypeIs (.ref a) "dict" := let ⟨_, d, _⟩ := x; d.typeIs
theorem Tab.there {h : Heap} {a : Addr} {T : Tb} (x : Tab prog w h a T) : ∃ o, h.get? a = Option.some o := by
  obtain ⟨_, ⟨o, _, _, ho, _⟩, _⟩ := x; exact ⟨o, ho⟩
theorem Tab.lt {h : Heap} {a : Addr} {T : Tb} (x : Tab prog w h a T) : a < h.objs.size := let ⟨_, ho⟩ := x.there; Heap.lt_size ho
theorem Tab.nodup {h : Heap} {a : Addr} {T : Tb} (x : Tab prog w h a T) : (T.map (·.1)).Nodup := by
  obtain ⟨kvs, ⟨o, es, ep, _, _, _, _, _, hn⟩, i⟩ := x
  rw [← i.keys]; exact hn
theorem Tab.new (h : Heap) : Tab prog w (h.push { cls := .type "dict", data := .dict #[] }) h.objs.size [] := ⟨[], Heap.DictOf.new h, .nil⟩

variable {A : Around} {E : Value → Shared → Prop} {s : Shared}

/-- a dict's items, drawn as pairs -/
theorem walksItems (hh : A.handled = none) (I d : Addr) (hne : d ≠ I) (kvs : List (Str × Value)) (ep : Nat) :
    WalksU prog w A I [I, d] [I] kvs.length (fun i vals => ∃ k key x, kvs[i]? = some (k, x) ∧ (strKind prog w).is k key = true ∧ vals = #[key, x])
      (fun i h => (∃ ok ov, IsItemIter h I d i kvs.length ep ok ov) ∧ h.DictAt (strKind prog w) d kvs ep)
      (fun i T h => (∃ ok ov, IsItemIterOut h I d (i + 1) kvs.length ep ok ov T) ∧ h.DictAt (strKind prog w) d kvs ep ∧ T ≠ I) where
  sub := fun b hb => by simp at hb; simp [hb]
  frame := fun i h h' st hk => by
    obtain ⟨⟨ok, ov, he⟩, hm⟩ := st
    exact ⟨⟨ok, ov, hk I (by simp) _ he⟩, hm.at fun o e => hk d (by simp) o e⟩
  item := fun i s Q E hi st hQ => by
    obtain ⟨⟨ok, ov, he⟩, hm⟩ := st
    obtain ⟨⟨k, x⟩, hx⟩ : ∃ p, kvs[i]? = some p := ⟨kvs[i], by simp [hi]⟩
    refine wpAny_pyNext_items_item he hm hx fun key h' hkey ho hT hsz hk => ?_
    refine hQ s.heap.objs.size #[key, x] h' s.toks ⟨k, key, x, hx, hkey, rfl⟩ ⟨_, hT, rfl, _, rfl⟩ ⟨⟨_, _, ho⟩, hm.at (fun o e => hk d o hne e), Nat.ne_of_gt (Heap.lt_size he)⟩ fun b o hb e => hk b o (fun q => hb (by simp [q])) e
  go := fun elts k pos i T s Q E hm hQ => by
    obtain ⟨⟨ok, ov, ho⟩, hd, hTI⟩ := hm
    refine wpAny_letOwnedTupleGo_items ho fun h' he hs => ?_
    exact hQ h' ⟨⟨ok, ov, he⟩, hd.extBut hs.extBut hne⟩ fun b o hb e => hs.extBut b o (fun q => hb (by simp [q])) e
  apart := fun i T h hm hT => by simp at hT; exact hm.2.2 hT
  done := fun s Q E st hQ => by
    obtain ⟨⟨ok, ov, he⟩, hm⟩ := st
    exact wpAny_pyNext_items_end hh he hm (by simp) fun h' hx => hQ h' s.toks fun b o hb e => hx b o (fun q => hb (by simp [q])) e
  self := fun i s Q E st hQ => by
    obtain ⟨⟨ok, ov, he⟩, hm⟩ := st
    exact kcp_self he hQ
end
end Mine
end
section -- D1
namespace Mine
open PySem PySem.W
set_option maxRecDepth 100000

abbrev No : Value → Shared → Prop := fun _ _ => False
abbrev Kp (h h' : Heap) : Prop := ∀ b o, h.get? b = some o → h'.get? b = some o

section
variable {prog : Program} {w : World} {A : Around} {E : Value → Shared → Prop} {R : Result → Shared → Prop} {s : Shared}

theorem wp_no {α : Type} {M : Model} {t : Sem α} {Q : α → Shared → Prop} (h : wpAny M A t Q No s) : wpAny M A t Q E s := wpAny_mono h (fun _ _ x => x) fun _ _ x => x.elim

theorem dc_loop {kx vx target iter : PySem.Expr} {ifs : List PySem.Expr} {scope : Scope} {pos : Pos} {it : Value} {D : Addr} {env : Env} (I : Nat → Shared → Prop)
    (turn : ∀ n s, I n s → wpAny (model prog w) A (pyNext it) (fun r s₁ => match r with
      | none => R (.ok .next) s₁
      | some v => wpAny (model prog w) A (letOwnedTupleGo target it v) (fun _ s₀ => wpAny (model prog w) A (assign target env v) (fun _ s₂ =>
          wpAny (model prog w) A (forIn ifs true fun c r => if r = true then do let ok ← isTrue c env (eval c env); pure (ForInStep.yield ok) else pure (ForInStep.yield r)) (fun ok s₃ =>
            if ok = true then wpAny (model prog w) A (eval kx env) (fun kv s₄ => wpAny (model prog w) A (eval vx env) (fun vv s₅ =>
              wpAny (model prog w) A (dictSet D kv vv) (fun _ s₆ => ∃ m, m < n ∧ I m s₆) No s₅) No s₄) No s₃
            else ∃ m, m < n ∧ I m s₃) No s₂) No s₀) No s₁) No s)
    (n : Nat) (h : I n s) :
    codeAny (model prog w) A (.compLoop (.DictComp kx vx [⟨target, iter, ifs, 0⟩] scope pos) 0 it (.ref D) env) R s := by
  refine codeAny_loop rfl I (fun n s hI => ?_) n h
  show wpAny _ A ((compTurn (.DictComp kx vx [⟨target, iter, ifs, 0⟩] scope pos) 0 it (.ref D) env).onRaise (fun x => do noteFrame x env; theTreesLotGoes x)) _ _ s
  refine wpAny_noted (wp_no ?_)
  rw [compTurn_dict]
  refine wpAny_bind (wpAny_standAt (wpAny_bind (wpAny_mono (turn n s hI) (fun r s₁ h₁ => ?_) fun _ _ h' => h')))
  cases r with
  | none => exact wpAny_pure h₁
  | some v =>
    refine wpAny_bind (wpAny_mono h₁ (fun _ s₀ h₀ => ?_) fun _ _ h' => h')
    refine wpAny_bind (wpAny_mono h₀ (fun _ s₂ h₂ => wpAny_bind (wpAny_mono h₂ (fun ok s₃ h₃ => ?_) fun _ _ h' => h')) fun _ _ h' => h')
    cases ok with
    | false => exact wpAny_pure ⟨rfl, h₃⟩
    | true =>
      exact wpAny_bind (wpAny_bind (wpAny_mono h₃ (fun kv s₄ h₄ => wpAny_bind (wpAny_holding (wpAny_mono h₄ (fun vv s₅ h₅ => wpAny_bind (wpAny_standAt (wpAny_holding (wpAny_mono h₅ (fun _ s₆ h₆ => wpAny_pure ⟨rfl, h₆⟩) fun _ _ h' => h')))) fun _ _ h' => h'))) fun _ _ h' => h'))

/-- what a comprehension's turn does: its test, its key, its value, none of which turns an elder object -/
structure Turn (prog : Program) (w : World) (A : Around) (env : Env) (a b : Str) (ifs : List PySem.Expr) (kx vx : PySem.Expr) (C : Addr) (h₀ : Heap) (wr : List Addr) (n : Nat) (Pt : Nat → Array Value → Prop) (T : Nat → Tb) : Prop where
  start : T 0 = []
  turn : ∀ i key x (s₂ : Shared) m₂, i < n → Pt i #[key, x] → s₂.heap.Ns C m₂ → m₂ a = some key → m₂ b = some x → (∀ c o, c ∉ wr → h₀.get? c = some o → s₂.heap.get? c = some o) →
    wpAny (model prog w) A (forIn ifs true fun c r => if r = true then do let ok ← isTrue c env (eval c env); pure (ForInStep.yield ok) else pure (ForInStep.yield r))
      (fun ok s₃ => Keeps s₂ s₃ ∧ if ok = true then wpAny (model prog w) A (eval kx env) (fun kv s₄ => Keeps s₃ s₄ ∧ wpAny (model prog w) A (eval vx env) (fun vv s₅ => Keeps s₄ s₅ ∧
          ∃ k t c t', kv = .str k t ∧ vv = .int c t' ∧ T (i + 1) = put (T i) k c) No s₄) No s₃ else T (i + 1) = T i) No s₂
  small : ∀ i, i ≤ n → (T i).length ≤ 100000

theorem dc_pairs {kx vx iter : PySem.Expr} {a b : Str} {pa pb tp : Pos} {kk : Nat} {ifs : List PySem.Expr} {scope : Scope} {pos : Pos} {I D : Addr} {fp wr : List Addr} {n : Nat} {Pt : Nat → Array Value → Prop} {St : Nat → Heap → Prop} {Mid : Nat → Addr → Heap → Prop}
    {cenv : Env} {m : Str → Option Value} {T : Nat → Tb} {h₀ : Heap} (W : WalksU prog w A I fp wr n Pt St Mid) (hh : A.handled = none)
    (hxa : cenv.kindOf a = some .local) (hxb : cenv.kindOf b = some .local) (hab : a ≠ b) (hp : (cenv.scope.kind == .class || (cenv.scope.kind == .module && cenv.locals != cenv.globals)) = false)
    (hDC : D ≠ cenv.locals) (hDf : D ∉ fp) (hCf : cenv.locals ∉ fp) (hPt : ∀ i vals, Pt i vals → ∃ key x, vals = #[key, x])
    (hst : St 0 s.heap) (hacc : Tab prog w s.heap D []) (hn : s.heap.Ns cenv.locals m) (hD₀ : h₀.get? D = none) (hC₀ : h₀.get? cenv.locals = none) (h0s : Kp h₀ s.heap)
    (tn : Turn prog w A cenv a b ifs kx vx cenv.locals h₀ wr n Pt T)
    (hR : ∀ h' tk m', h'.Ns cenv.locals m' → Tab prog w h' D (T n) → (∀ b o, b ≠ cenv.locals → b ∉ wr → b ≠ D → s.heap.get? b = some o → h'.get? b = some o) → R (.ok .next) { s with heap := h', toks := tk }) :
    codeAny (model prog w) A (.compLoop (.DictComp kx vx [⟨.Tuple [.Name a pa, .Name b pb] kk tp, iter, ifs, 0⟩] scope pos) 0 (.ref I) (.ref D) cenv) R s := by
  refine dc_loop
    (fun k s' => ∃ h' tk m' i, s' = { s with heap := h', toks := tk } ∧ St i h' ∧ Tab prog w h' D (T i) ∧ h'.Ns cenv.locals m' ∧ i ≤ n ∧ k = n + 1 - i ∧
      ∀ b o, b ≠ cenv.locals → b ∉ wr → b ≠ D → s.heap.get? b = some o → h'.get? b = some o) ?_ (n + 1)
    ⟨s.heap, s.toks, m, 0, rfl, hst, by rw [tn.start]; exact hacc, hn, Nat.zero_le _, rfl, fun _ _ _ _ _ e => e⟩
  rintro k s' ⟨H, tk, m', i, rfl, hst', hacc', hn', hi, rfl, hk⟩
  have hCw : cenv.locals ∉ wr := fun h => hCf (W.sub _ h)
  have hDw : D ∉ wr := fun h => hDf (W.sub _ h)
  by_cases hlt : i < n
  · refine W.item i _ _ _ hlt hst' fun U vals h₁ tk₁ hPv hU hM hk₁ => ?_
    have hUw := W.apart i U _ hM
    obtain ⟨key, x, rfl⟩ := hPt i vals hPv
    dsimp only
    refine W.go _ kk tp i U _ _ _ hM fun h₂ hst₂ hk₂ => ?_
    have hU₂ : h₂.IsTuple U #[key, x] := hU.at fun o e => hk₂ U o hUw e
    have up₂ : ∀ b o, b ∉ wr → H.get? b = some o → h₂.get? b = some o := fun b o hb e => hk₂ b o hb (hk₁ b o hb e)
    refine kcp_assign (env := cenv) hh hU₂ hxa hxb hp (hn'.at' fun o e => up₂ _ o hCw e) fun h₃ tk₃ hn₃ hs₃ => ?_
    have up₃ : ∀ b o, b ≠ cenv.locals → b ∉ wr → H.get? b = some o → h₃.get? b = some o := fun b o h1 h2 e => hs₃ b o h1 (up₂ b o h2 e)
    have hst₃ : St (i + 1) h₃ := W.frame _ _ _ hst₂ fun b hb o e => hs₃ b o (fun q => hCf (q ▸ hb)) e
    have old : ∀ c o, c ∉ wr → h₀.get? c = some o → h₃.get? c = some o := fun c o hcw e => by
      have c1 : c ≠ cenv.locals := fun q => by rw [q, hC₀] at e; cases e
      have c2 : c ≠ D := fun q => by rw [q, hD₀] at e; cases e
      exact up₃ c o c1 hcw (hk c o c1 hcw c2 (h0s c o e))
    refine wpAny_mono (tn.turn i key x _ _ hlt hPv hn₃ (by simp [hab]) (by simp) old) (fun ok s₃ h₃' => ?_) fun _ _ x => x
    obtain ⟨⟨h₄, tk₄, rfl, hk₄⟩, hok⟩ := h₃'
    have hst₄ : St (i + 1) h₄ := W.frame _ _ _ hst₃ fun b _ o e => hk₄ b o e
    have hacc₄ : Tab prog w h₄ D (T i) := hacc'.keep fun o e => hk₄ _ o (up₃ D o hDC hDw e)
    have hn₄ := hn₃.keeps hk₄
    cases ok with
    | false =>
      simp only [Bool.false_eq_true, if_false] at hok ⊢
      refine ⟨n + 1 - (i + 1), by omega, h₄, tk₄, _, i + 1, rfl, hst₄, by rw [hok]; exact hacc₄, hn₄, hlt, rfl, fun b o hbC hbf hbD e => hk₄ b o (up₃ b o hbC hbf (hk b o hbC hbf hbD e))⟩
    | true =>
      simp only [if_true] at hok ⊢
      refine wpAny_mono hok (fun kv s₅ h₅' => ?_) fun _ _ x => x
      obtain ⟨⟨h₅, tk₅, rfl, hk₅⟩, hv⟩ := h₅'
      refine wpAny_mono hv (fun vv s₆ h₆' => ?_) fun _ _ x => x
      obtain ⟨⟨h₆, tk₆, rfl, hk₆⟩, k, t, c, t', rfl, rfl, hT⟩ := h₆'
      obtain ⟨kvs, hd, hi'⟩ := hacc₄
      have hsz : kvs.length ≤ sizeLine := by
        have e1 := hi'.length
        have e2 := tn.small i hi
        have e3 : (100000 : Nat) ≤ sizeLine := by decide
        omega
      refine wpAny_dictSet_pairs (hsz := hsz) (strKind_is prog w k t) (hd.keep fun b o e => hk₆ b o (hk₅ b o e)) fun h₇ hd₇ hs₇ => ?_
      refine ⟨n + 1 - (i + 1), by omega, h₇, tk₆ + 1, _, i + 1, rfl, ?_, ⟨_, hd₇, by rw [hT]; exact hi'.store k c t'⟩, ((hn₄.keeps hk₅).keeps hk₆).sameBut hs₇ (Ne.symm hDC), hlt, rfl, fun b o hbC hbf hbD e => ?_⟩
      · exact W.frame _ _ _ hst₄ fun b hb o e => hs₇.extBut b o (fun q => hDf (q ▸ hb)) (hk₆ b o (hk₅ b o e))
      · exact hs₇.extBut b o hbD (hk₆ b o (hk₅ b o (hk₄ b o (up₃ b o hbC hbf (hk b o hbC hbf hbD e)))))
  · have hin : i = n := by omega
    subst hin
    refine W.done _ _ _ hst' fun h₁ tk₁ hk₁ => ?_
    exact hR h₁ tk₁ m' (hn'.at' fun o e => hk₁ _ o hCw e) (hacc'.keep fun o e => hk₁ _ o hDw e) fun b o hbC hbf hbD e => hk₁ b o hbf (hk b o hbC hbf hbD e)
end
end Mine
end
section -- D2
namespace Mine
open PySem PySem.W
set_option maxRecDepth 100000
section
variable {prog : Program} {w : World} {A : Around} {E : Value → Shared → Prop} {R : Result → Shared → Prop} {s : Shared}

theorem fresh_none {h : Heap} {a : Addr} (ha : h.objs.size ≤ a) : h.get? a = none := by
  cases e : h.get? a with
  | none => rfl
  | some o' => exact absurd (Heap.lt_size e) (Nat.not_lt.mpr ha)

theorem dc_block {env : Env} {kx vx iter : PySem.Expr} {a b : Str} {pa pb tp : Pos} {kk : Nat} {ifs : List PySem.Expr} {scope : Scope} {cl : List (Str × Addr)} {pos : Pos} {I : Addr} {fp wr : List Addr} {n : Nat} {Pt : Nat → Array Value → Prop} {St : Nat → Heap → Prop} {Mid : Nat → Addr → Heap → Prop}
    {T : Nat → Tb} {RR : Value → Addr → Result → Shared → Prop} (W : WalksU prog w A I fp wr n Pt St Mid) (hh : A.handled = none)
    (hcell : ∀ y ∈ scope.names, y.2 ≠ .cell) (hkind : scope.kind = .function) (hxa : scope.names.lookup a = some .local) (hxb : scope.names.lookup b = some .local) (hab : a ≠ b)
    (hPt : ∀ i vals, Pt i vals → ∃ key x, vals = #[key, x]) (hst : St 0 s.heap) (hfp : ∀ b ∈ fp, b < s.heap.objs.size)
    (tn : ∀ C, s.heap.objs.size ≤ C → Turn prog w A (compEnvC scope cl C env) a b ifs kx vx C s.heap wr n Pt T)
    (hRR : ∀ D C h' tk m', s.heap.objs.size ≤ D → s.heap.get? C = none → D ≠ C → h'.Ns C m' → Tab prog w h' D (T n) →
      (∀ b o, b ∉ wr → s.heap.get? b = some o → h'.get? b = some o) → RR (.ref D) C (.ok .next) { s with heap := h', toks := tk }) :
    wpAny (model prog w) A newDict (fun acc s₃ => wpAny (model prog w) A (newFunctionEnv scope env.globals cl [] env.qual none .none (some env)) (fun cenv s₄ =>
      codeAny (model prog w) A (.compStart (.DictComp kx vx [⟨.Tuple [.Name a pa, .Name b pb] kk tp, iter, ifs, 0⟩] scope pos) 0 (.ref I) acc { cenv with scope := relabel scope env }) (RR acc cenv.locals) s₄) E s₃) E s := by
  refine wpAny_newObj_type (wpAny_newFunctionEnv hcell (by intro y hy; simp at hy) (fun h₁ hns₁ hsb₁ => ?_) hkind)
  dsimp only at hns₁ hsb₁ ⊢
  generalize hH2 : s.heap.push { cls := .type "dict", dict := none, data := .dict #[] } = H2 at hns₁ hsb₁ ⊢
  have hC : H2.objs.size = s.heap.objs.size + 1 := by rw [← hH2, Heap.size_push]
  have hDC : s.heap.objs.size ≠ H2.objs.size := by rw [hC]; exact Nat.ne_of_lt (Nat.lt_succ_self _)
  have hCle : s.heap.objs.size ≤ H2.objs.size := by rw [hC]; exact Nat.le_succ _
  have below : ∀ b, b < s.heap.objs.size → b ≠ H2.objs.size ∧ b ≠ s.heap.objs.size := fun b hb => ⟨by rw [hC]; exact Nat.ne_of_lt (Nat.lt_succ_of_lt hb), Nat.ne_of_lt hb⟩
  have hDf : s.heap.objs.size ∉ fp := fun hm => Nat.lt_irrefl _ (hfp _ hm)
  have hCf : H2.objs.size ∉ fp := fun hm => by have := hfp _ hm; rw [hC] at this; exact Nat.lt_irrefl _ (Nat.lt_of_succ_lt this)
  have old : ∀ b o, s.heap.get? b = some o → h₁.get? b = some o := fun b o e => hsb₁.extBut b o (below b (Heap.lt_size e)).1 (Heap.get?_push_of_some _ (hH2 ▸ Heap.get?_push_of_some _ e))
  have hacc : Tab prog w h₁ s.heap.objs.size [] := (Tab.new s.heap).keep fun o e => hsb₁.extBut _ _ hDC (Heap.get?_push_of_some _ (hH2 ▸ e))
  have hst₁ : St 0 h₁ := W.frame _ _ _ hst fun b _ o e => old b o e
  have loop : ∀ s₃ : Shared, s₃ = { s with heap := h₁, toks := s.toks + ([] : List (Str × Value)).length } →
      codeAny (model prog w) A (.compLoop (.DictComp kx vx [⟨.Tuple [.Name a pa, .Name b pb] kk tp, iter, ifs, 0⟩] scope pos) 0 (.ref I) (.ref s.heap.objs.size) (compEnvC scope cl H2.objs.size env))
        (RR (.ref s.heap.objs.size) H2.objs.size) s₃ := by
    rintro s₃ rfl
    refine dc_pairs (cenv := compEnvC scope cl H2.objs.size env) (h₀ := s.heap) W hh (lookup_relabel_local hxa) (lookup_relabel_local hxb) hab (by simp [compEnvC, relabel, hkind]) hDC hDf hCf hPt hst₁ hacc hns₁ (fresh_none (Nat.le_refl _)) (fresh_none hCle) old (tn _ hCle) fun h' tk m' hn hT hk => ?_
    exact hRR _ _ h' tk m' (Nat.le_refl _) (fresh_none hCle) hDC hn hT fun b o hbf e => hk b o (below b (Heap.lt_size e)).1 hbf (below b (Heap.lt_size e)).2 (old b o e)
  exact codeAny_compStart_dict (loop _ rfl) (W.self 0 _ _ _ hst₁ (loop _ rfl))

theorem eval_DictComp' (env : Env) (kx vx gens scope pos) : eval (.DictComp kx vx gens scope pos) env =
    comprehension (.DictComp kx vx gens scope pos) scope env (firstIterPos gens pos) newDict (firstAsync gens) (firstIter gens env) := rfl

/-- a comprehension of a dict over pairs, its value -/
theorem wp_DictComp {env : Env} {kx vx iter : PySem.Expr} {a b : Str} {pa pb tp : Pos} {kk : Nat} {ifs : List PySem.Expr} {scope : Scope} {cl : List (Str × Addr)} {pos : Pos} {Q : Value → Shared → Prop} (hh : A.handled = none)
    (hclos : closureFor scope env = pure cl) (hcell : ∀ y ∈ scope.names, y.2 ≠ .cell) (hkind : scope.kind = .function)
    (hnames : ∀ z ∈ scope.names, z.2 = .local → scope.names.lookup z.1 = some .local) (hxa : scope.names.lookup a = some .local) (hxb : scope.names.lookup b = some .local) (hab : a ≠ b)
    (h : wpAny (model prog w) A (eval iter env) (fun xv s₁ => wpAny (model prog w) A (pyIter xv) (fun it s₂ => ∃ I fp wr n Pt St Mid T, it = .ref I ∧ WalksU prog w A I fp wr n Pt St Mid ∧ (∀ i vals, Pt i vals → ∃ key x, vals = #[key, x]) ∧
      St 0 s₂.heap ∧ (∀ b ∈ fp, b < s₂.heap.objs.size) ∧ (∀ C, s₂.heap.objs.size ≤ C → Turn prog w A (compEnvC scope cl C env) a b ifs kx vx C s₂.heap wr n Pt T) ∧
      (∀ D h' tk, s₂.heap.objs.size ≤ D → Tab prog w h' D (T n) → (∀ b o, b ∉ wr → s₂.heap.get? b = some o → h'.get? b = some o) → Q (.ref D) { s₂ with heap := h', toks := tk })) E s₁) E s)
    (hs : ∀ x, foldedSetIterable iter env x = pure x := by intro _; rfl) :
    wpAny (model prog w) A (eval (.DictComp kx vx [⟨.Tuple [.Name a pa, .Name b pb] kk tp, iter, ifs, 0⟩] scope pos) env) Q E s := by
  rw [eval_DictComp']
  refine wpAny_comprehension_free (use := none) rfl hs hclos hkind hnames (wpAny_mono h (fun xv s₁ h₁ => wpAny_mono h₁ (fun it s₂ h₂ => ?_) fun _ _ e => e) fun _ _ e => e)
  obtain ⟨I, fp, wr, n, Pt, St, Mid, T, rfl, W, hPt, hst, hfp, htn, hQ⟩ := h₂
  refine dc_block (RR := fun acc C => compPost (model prog w) A E none Q acc C) W hh hcell hkind hxa hxb hab hPt hst hfp htn ?_
  intro D C h' tk m' hD hC hDC hn hT hk
  exact ⟨m', hn, fun h'' hs'' => hQ D h'' tk hD (hT.keep fun o e => hs''.extBut D o hDC e) fun b o hbf e => hs''.extBut b o (by rintro rfl; rw [hC] at e; cases e) (hk b o hbf e)⟩

/-- .. and its value stored -/
theorem wp_Assign_DictComp {env : Env} {kx vx iter : PySem.Expr} {a b y : Str} {pa pb tp py : Pos} {kk : Nat} {ifs : List PySem.Expr} {scope : Scope} {cl : List (Str × Addr)} {pos spos : Pos} {Q : Flow → Shared → Prop} (hh : A.handled = none)
    (hsw : swapsWith (.DictComp kx vx [⟨.Tuple [.Name a pa, .Name b pb] kk tp, iter, ifs, 0⟩] scope pos) (some (.Name y py)) spos.line env = pure true)
    (hclos : closureFor scope env = pure cl) (hcell : ∀ y ∈ scope.names, y.2 ≠ .cell) (hkind : scope.kind = .function)
    (hnames : ∀ z ∈ scope.names, z.2 = .local → scope.names.lookup z.1 = some .local) (hxa : scope.names.lookup a = some .local) (hxb : scope.names.lookup b = some .local) (hab : a ≠ b)
    (hy : env.kindOf y = some .local) (hp : (env.scope.kind == .class || (env.scope.kind == .module && env.locals != env.globals)) = false)
    (h : wpAny (model prog w) A (eval iter env) (fun xv s₁ => wpAny (model prog w) A (pyIter xv) (fun it s₂ => ∃ I fp wr n Pt St Mid T m, it = .ref I ∧ WalksU prog w A I fp wr n Pt St Mid ∧ (∀ i vals, Pt i vals → ∃ key x, vals = #[key, x]) ∧
      St 0 s₂.heap ∧ (∀ b ∈ fp, b < s₂.heap.objs.size) ∧ env.locals ∉ wr ∧ s₂.heap.Ns env.locals m ∧ (∀ C, s₂.heap.objs.size ≤ C → Turn prog w A (compEnvC scope cl C env) a b ifs kx vx C s₂.heap wr n Pt T) ∧
      (∀ D h' tk, s₂.heap.objs.size ≤ D → Tab prog w h' D (T n) → h'.Ns env.locals (fun z => if z = y then some (.ref D) else m z) → (∀ b o, b ≠ env.locals → b ∉ wr → s₂.heap.get? b = some o → h'.get? b = some o) → Q .next { s₂ with heap := h', toks := tk })) E s₁) E s)
    (hs : ∀ x, foldedSetIterable iter env x = pure x := by intro _; rfl) :
    wpAny (model prog w) A (exec (.Assign [.Name y py] (.DictComp kx vx [⟨.Tuple [.Name a pa, .Name b pb] kk tp, iter, ifs, 0⟩] scope pos) spos) env) Q E s := by
  rw [exec_Assign_Name_used _ _ _ _ hsw]
  refine wpAny_bind (wpAny_standAt (wpAny_bind ?_))
  show wpAny _ A (do let _ ← comprehension (.DictComp kx vx [⟨.Tuple [.Name a pa, .Name b pb] kk tp, iter, ifs, 0⟩] scope pos) scope env _ newDict false (eval iter env) (some (assign (.Name y py) env))) _ _ s
  refine wpAny_bind (wpAny_mono (wpAny_comprehension_free (use := some (assign (.Name y py) env)) (Q := fun _ s' => Q .next s') rfl hs hclos hkind hnames
    (wpAny_mono h (fun xv s₁ h₁ => wpAny_mono h₁ (fun it s₂ h₂ => ?_) fun _ _ e => e) fun _ _ e => e)) (fun _ s' hq => wpAny_pure (wpAny_pure hq)) fun _ _ e => e)
  obtain ⟨I, fp, wr, n, Pt, St, Mid, T, m, rfl, W, hPt, hst, hfp, hLf, hn, htn, hQ⟩ := h₂
  refine dc_block (RR := fun acc C => compPost (model prog w) A E (some (assign (.Name y py) env)) (fun _ s' => Q .next s') acc C) W hh hcell hkind hxa hxb hab hPt hst hfp htn ?_
  intro D C h' tk m' hD hC hDC hnC hT hk
  have hLC : env.locals ≠ C := by rintro rfl; obtain ⟨o, _, _, ho, _⟩ := hn; rw [hC] at ho; cases ho
  have hLD : env.locals ≠ D := Nat.ne_of_lt (Nat.lt_of_lt_of_le hn.lt hD)
  show wpAny _ A (assign (.Name y py) env (.ref D)) _ _ _
  refine wpAny_assign_Name (wpAny_storeName_local hy (hn.at' fun o e => hk _ o hLf e) (fun h₂ hn₂ hs₂ => ?_) hp)
  refine ⟨m', hnC.sameBut hs₂ (Ne.symm hLC), fun h₃ hs₃ => ?_⟩
  exact hQ D h₃ _ hD (hT.keep fun o e => hs₃.extBut D o hDC (hs₂.extBut D o (Ne.symm hLD) e)) (hn₂.sameBut hs₃ hLC) fun b o hbL hbf e =>
    hs₃.extBut b o (by rintro rfl; rw [hC] at e; cases e) (hs₂.extBut b o hbL (hk b o hbf e))
end
end Mine
end
section -- D3
namespace Mine
open PySem PySem.W
set_option maxRecDepth 100000
section
variable {prog : Program} {w : World} {A : Around} {E : Value → Shared → Prop} {R : Result → Shared → Prop} {s : Shared}

/-- a for over pairs, by what holds between its turns; ws: what its body may turn beside the frame -/
theorem for_pairs {env : Env} {a b : Str} {pa pb tp : Pos} {kk : Nat} {body : List Stmt} {I : Addr} {fp wr : List Addr} {n : Nat} {Pt : Nat → Array Value → Prop} {St : Nat → Heap → Prop} {Mid : Nat → Addr → Heap → Prop}
    {m : Str → Option Value} (W : WalksU prog w A I fp wr n Pt St Mid) (hh : A.handled = none)
    (hxa : env.kindOf a = some .local) (hxb : env.kindOf b = some .local) (hp : (env.scope.kind == .class || (env.scope.kind == .module && env.locals != env.globals)) = false)
    (hLf : env.locals ∉ fp) (ws : List Addr) (hws : ∀ c ∈ ws, c ∉ fp ∧ c ≠ env.locals) (hPt : ∀ i vals, Pt i vals → ∃ key x, vals = #[key, x])
    (hst : St 0 s.heap) (hn : s.heap.Ns env.locals m)
    (J : Nat → (Str → Option Value) → Heap → Prop) (hJ : ∀ i m h h', J i m h → (∀ c ∈ ws, ∀ o, h.get? c = some o → h'.get? c = some o) → J i m h') (h0 : J 0 m s.heap)
    (step : ∀ i key x (s₁ : Shared) m₁, i < n → Pt i #[key, x] → J i m₁ s₁.heap → s₁.heap.Ns env.locals (fun y => if y = b then some x else if y = a then some key else m₁ y) →
      (∀ c o, c ≠ env.locals → c ∉ wr → c ∉ ws → s.heap.get? c = some o → s₁.heap.get? c = some o) →
      wpAny (model prog w) A (execs body env) (fun f s₂ => f = .next ∧ ∃ h tk m₂, s₂ = { s₁ with heap := h, toks := tk } ∧ h.Ns env.locals m₂ ∧ J (i + 1) m₂ h ∧
        (∀ c o, c ≠ env.locals → c ∉ ws → s₁.heap.get? c = some o → h.get? c = some o)) No s₁)
    (hR : ∀ h' tk m', h'.Ns env.locals m' → J n m' h' → (∀ c o, c ≠ env.locals → c ∉ wr → c ∉ ws → s.heap.get? c = some o → h'.get? c = some o) → R (.ok .next) { s with heap := h', toks := tk }) :
    codeAny (model prog w) A (.forLoop (.Tuple [.Name a pa, .Name b pb] kk tp) (.ref I) body [] env) R s := by
  have hLw : env.locals ∉ wr := fun h => hLf (W.sub _ h)
  refine codeAny_forLoop_any
    (fun k s' => ∃ h' tk m' i, s' = { s with heap := h', toks := tk } ∧ St i h' ∧ h'.Ns env.locals m' ∧ J i m' h' ∧ i ≤ n ∧ k = n + 1 - i ∧
      ∀ c o, c ≠ env.locals → c ∉ wr → c ∉ ws → s.heap.get? c = some o → h'.get? c = some o) ?_ (n + 1)
    ⟨s.heap, s.toks, m, 0, rfl, hst, hn, h0, Nat.zero_le _, rfl, fun _ _ _ _ _ e => e⟩
  rintro k s' ⟨H, tk, m', i, rfl, hst', hn', hJ', hi, rfl, hk⟩
  refine wp_no ?_
  by_cases hlt : i < n
  · refine W.item i _ _ _ hlt hst' fun U vals h₁ tk₁ hPv hU hM hk₁ => ?_
    have hUw := W.apart i U _ hM
    obtain ⟨key, x, rfl⟩ := hPt i vals hPv
    dsimp only
    refine wp_no (W.go _ kk tp i U _ _ _ hM fun h₂ hst₂ hk₂ => ?_)
    have hU₂ : h₂.IsTuple U #[key, x] := hU.at fun o e => hk₂ U o hUw e
    have up₂ : ∀ b o, b ∉ wr → H.get? b = some o → h₂.get? b = some o := fun b o hb e => hk₂ b o hb (hk₁ b o hb e)
    refine wp_no (kcp_assign (env := env) hh hU₂ hxa hxb hp (hn'.at' fun o e => up₂ _ o hLw e) fun h₃ tk₃ hn₃ hs₃ => ?_)
    have up₃ : ∀ b o, b ≠ env.locals → b ∉ wr → H.get? b = some o → h₃.get? b = some o := fun b o h1 h2 e => hs₃ b o h1 (up₂ b o h2 e)
    have hst₃ : St (i + 1) h₃ := W.frame _ _ _ hst₂ fun b hb o e => hs₃ b o (fun q => hLf (q ▸ hb)) e
    have hJ₃ : J i m' h₃ := hJ _ _ _ _ hJ' fun c hc o e => up₃ c o (hws c hc).2 (fun q => (hws c hc).1 (W.sub _ q)) e
    refine wp_no (wpAny_mono (step i key x _ m' hlt hPv hJ₃ hn₃ fun c o c1 c2 c3 e => up₃ c o c1 c2 (hk c o c1 c2 c3 e)) (fun f s₄ h₄ => ?_) fun _ _ x => x)
    obtain ⟨rfl, h₄, tk₄, m₄, rfl, hn₄, hJ₄, hk₄⟩ := h₄
    refine ⟨n + 1 - (i + 1), by omega, h₄, tk₄, m₄, i + 1, rfl, ?_, hn₄, hJ₄, hlt, rfl, fun c o c1 c2 c3 e => hk₄ c o c1 c3 (up₃ c o c1 c2 (hk c o c1 c2 c3 e))⟩
    exact W.frame _ _ _ hst₃ fun c hc o e => hk₄ c o (fun q => hLf (q ▸ hc)) (fun q => (hws c q).1 hc) e
  · have hin : i = n := by omega
    subst hin
    refine W.done _ _ _ hst' fun h₁ tk₁ hk₁ => ?_
    dsimp only
    refine wpAny_execs_nil ?_
    exact hR h₁ tk₁ m' (hn'.at' fun o e => hk₁ _ o hLw e) (hJ _ _ _ _ hJ' fun c hc o e => hk₁ c o (fun q => (hws c hc).1 (W.sub _ q)) e) fun c o c1 c2 c3 e => hk₁ c o c2 (hk c o c1 c2 c3 e)

/-- for a, b in o.items(): .. -/
theorem For_items {env : Env} {a b : Str} {pa pb tp pos apos cpos : Pos} {kk : Nat} {o : PySem.Expr} {body : List Stmt} {d : Addr} {T : Tb} {m : Str → Option Value} {Q : Flow → Shared → Prop} (hh : A.handled = none)
    (hxa : env.kindOf a = some .local) (hxb : env.kindOf b = some .local) (hp : (env.scope.kind == .class || (env.scope.kind == .module && env.locals != env.globals)) = false)
    (hdS : (d == sysModules) = false) (hdL : d ≠ env.locals) (ws : List Addr) (hws : ∀ c ∈ ws, c ≠ d ∧ c ≠ env.locals ∧ c < s.heap.objs.size) (hd : Tab prog w s.heap d T) (hn : s.heap.Ns env.locals m)
    (hbase : attributeBase o "items" env (eval o env) = eval o env) (hline : (apos.endLine == cpos.line) = true)
    (ho : ∀ Q', Q' (.ref d) s → wpAny (model prog w) A (eval o env) Q' No s)
    (J : Nat → (Str → Option Value) → Heap → Prop) (hJ : ∀ i m h h', J i m h → (∀ c ∈ ws, ∀ o, h.get? c = some o → h'.get? c = some o) → J i m h') (h0 : J 0 m s.heap)
    (step : ∀ i k c t t' (s₁ : Shared) m₁, T[i]? = some (k, c) → J i m₁ s₁.heap → s₁.heap.Ns env.locals (fun y => if y = b then some (.int c t) else if y = a then some (.str k t') else m₁ y) →
      (∀ c o, c ≠ env.locals → c ∉ ws → s.heap.get? c = some o → s₁.heap.get? c = some o) →
      wpAny (model prog w) A (execs body env) (fun f s₂ => f = .next ∧ ∃ h tk m₂, s₂ = { s₁ with heap := h, toks := tk } ∧ h.Ns env.locals m₂ ∧ J (i + 1) m₂ h ∧
        (∀ c o, c ≠ env.locals → c ∉ ws → s₁.heap.get? c = some o → h.get? c = some o)) No s₁)
    (hQ : ∀ h' tk m', h'.Ns env.locals m' → J T.length m' h' → (∀ c o, c ≠ env.locals → c ∉ ws → s.heap.get? c = some o → h'.get? c = some o) → Q .next { s with heap := h', toks := tk })
    (hs : ∀ x, foldedSetIterable (.Call (.Attribute o "items" apos) [] [] cpos) env x = pure x := by intro _; rfl) :
    wpAny (model prog w) A (exec (.For (.Tuple [.Name a pa, .Name b pb] kk tp) (.Call (.Attribute o "items" apos) [] [] cpos) body [] pos) env) Q No s := by
  obtain ⟨kvs, hdo, hi⟩ := hd
  obtain ⟨ep, hat⟩ := hdo.dictAt
  refine wpAny_For (wpAny_Call_items (knd := strKind prog w) hdS hdo hbase hline ho ?_) hs
  refine wpAny_pyIter_items (knd := strKind prog w) (d := d) (kvs := kvs) (ep := ep) ⟨_, Heap.get?_push_size _ rfl, rfl, rfl⟩ (hat.push _) ?_
  have hsz : (s.heap.push { cls := .type "dict_items", data := .fields #[.ref d] }).objs.size = s.heap.objs.size + 1 := Heap.size_push ..
  have hdlt := hat.lt_size
  have hIne : d ≠ (s.heap.push { cls := .type "dict_items", data := .fields #[.ref d] }).objs.size := by rw [hsz]; exact Nat.ne_of_lt (Nat.lt_succ_of_lt hdlt)
  have offI : ∀ c, c < s.heap.objs.size → c ≠ (s.heap.push { cls := .type "dict_items", data := .fields #[.ref d] }).objs.size := fun c hc => by rw [hsz]; exact Nat.ne_of_lt (Nat.lt_succ_of_lt hc)
  refine for_pairs (m := m) (walksItems (prog := prog) (w := w) hh (s.heap.push { cls := .type "dict_items", data := .fields #[.ref d] }).objs.size d hIne kvs ep) hh hxa hxb hp ?_ ws ?_ ?_ ?_ ?_ J hJ ?_ ?_ ?_
  · intro hm
    simp only [List.mem_cons, List.not_mem_nil, or_false] at hm
    rcases hm with e | e
    · exact offI _ hn.lt e
    · exact hdL e.symm
  · intro c hc
    obtain ⟨h1, h2, h3⟩ := hws c hc
    refine ⟨fun hm => ?_, h2⟩
    simp only [List.mem_cons, List.not_mem_nil, or_false] at hm
    rcases hm with e | e
    · exact offI _ h3 e
    · exact h1 e
  · rintro i vals ⟨k, key, x, _, _, rfl⟩; exact ⟨key, x, rfl⟩
  · exact ⟨⟨.none, .none, Heap.get?_push_size _ rfl⟩, (hat.push _).push _⟩
  · exact (hn.push _).push _
  · exact hJ _ _ _ _ h0 fun c _ o e => Heap.get?_push_of_some _ (Heap.get?_push_of_some _ e)
  · rintro i key x s₁ m₁ hlt ⟨k, key', x', hx, hkey, e⟩ hJ₁ hn₁ hk₁
    obtain ⟨rfl, rfl⟩ : key = key' ∧ x = x' := by simpa using e
    obtain ⟨c, t, rfl, hT⟩ := hi.at hx
    obtain ⟨t', rfl⟩ := Value.isStrOf_shape hkey
    refine step i k c t t' s₁ m₁ hT hJ₁ hn₁ fun c o c1 c2 e => hk₁ c o c1 ?_ c2 (Heap.get?_push_of_some _ (Heap.get?_push_of_some _ e))
    intro q
    simp only [List.mem_singleton] at q
    exact offI c (Heap.lt_size e) q
  · intro h' tk m' hn' hJ' hk'
    rw [hi.length] at hJ'
    refine hQ h' tk m' hn' hJ' fun c o c1 c2 e => hk' c o c1 ?_ c2 (Heap.get?_push_of_some _ (Heap.get?_push_of_some _ e))
    intro q
    simp only [List.mem_singleton] at q
    exact offI c (Heap.lt_size e) q
end
end Mine
end
section -- C0
namespace Mine
open PySem PySem.W PySem.Calls PyProof.Rows
set_option maxRecDepth 100000

def bodyOf (i : Nat) : List Stmt := match PySem.Challenge.pw_wn0004_01.main.body[i]? with
  | some (.FunctionDef _ _ b _ _ _ _ _ _ _) => b
  | _ => []
def argsOf (i : Nat) : Arguments := match PySem.Challenge.pw_wn0004_01.main.body[i]? with
  | some (.FunctionDef _ a _ _ _ _ _ _ _ _) => a
  | _ => default
def scopeOf (i : Nat) : Scope := match PySem.Challenge.pw_wn0004_01.main.body[i]? with
  | some (.FunctionDef _ _ _ _ _ _ s _ _ _) => s
  | _ => default

/-- a def of the text stands at a -/
def FnAt (h : Heap) (a : Addr) (name : Str) (i : Nat) (cdv : Value) : Prop :=
  ∃ o doc pm ct an, h.get? a = some o ∧ o.data = .func (fnOf name name (argsOf i) (bodyOf i) (scopeOf i) .none .none doc pm an cdv ct) ∧ h.CodeRec cdv name
theorem FnAt.keeps {h h' : Heap} {a name i cdv} (x : FnAt h a name i cdv) (k : Kp h h') : FnAt h' a name i cdv :=
  let ⟨o, doc, pm, ct, an, a1, a2, a3⟩ := x; ⟨o, doc, pm, ct, an, k _ _ a1, a2, a3.keeps k⟩

/-- what the calls lean on -/
structure Wd (mg mb : Str → Option Value) (h : Heap) : Prop where
  g : h.Ns mainGlobals mg
  b : h.Ns builtinsNs mb
  lim : h.NoLimit
  bi : ∀ x : Str, x ≠ "__name__" → mb x = bootBuiltins x
  f_isinstance : mg "isinstance" = none
  f_tuple : mg "tuple" = none
  f_list : mg "list" = none
  f_zip : mg "zip" = none
  f_len : mg "len" = none
  f_range : mg "range" = none
  f_bytearray : mg "bytearray" = none
  f_bytes : mg "bytes" = none
  f_sum : mg "sum" = none
  f_enumerate : mg "enumerate" = none
  f_abs : mg "abs" = none
  f_int : mg "int" = none
  g2 : ∃ a cdv, mg "add_callers" = some (.ref a) ∧ FnAt h a "add_callers" 2 cdv
  g7 : ∃ a cdv, mg "quotedata" = some (.ref a) ∧ FnAt h a "quotedata" 7 cdv
  g9 : ∃ a cdv, mg "_byteswap" = some (.ref a) ∧ FnAt h a "_byteswap" 9 cdv
  g11 : ∃ a cdv, mg "_law_piece" = some (.ref a) ∧ FnAt h a "_law_piece" 11 cdv
  g12 : ∃ a cdv, mg "_law_sent" = some (.ref a) ∧ FnAt h a "_law_sent" 12 cdv
  g13 : ∃ a cdv, mg "_law_done" = some (.ref a) ∧ FnAt h a "_law_done" 13 cdv
  g14 : ∃ a cdv, mg "_law_led" = some (.ref a) ∧ FnAt h a "_law_led" 14 cdv
  g15 : ∃ a cdv, mg "_law_read" = some (.ref a) ∧ FnAt h a "_law_read" 15 cdv
  g16 : ∃ a cdv, mg "_law_told" = some (.ref a) ∧ FnAt h a "_law_told" 16 cdv
  pat1 : ∃ p, mg "_twin_re_1" = some (.ref p) ∧ Pat h p code1
  pat2 : ∃ p, mg "_twin_re_2" = some (.ref p) ∧ Pat h p code2
  crlf : ∃ t, mg "CRLF" = some (.str "\r\n" t)
theorem Wd.keeps {mg mb : Str → Option Value} {h h' : Heap} (x : Wd mg mb h) (k : Kp h h') : Wd mg mb h' where
  g := x.g.keeps k
  b := x.b.keeps k
  lim := x.lim.keeps k
  bi := x.bi
  f_isinstance := x.f_isinstance
  f_tuple := x.f_tuple
  f_list := x.f_list
  f_zip := x.f_zip
  f_len := x.f_len
  f_range := x.f_range
  f_bytearray := x.f_bytearray
  f_bytes := x.f_bytes
  f_sum := x.f_sum
  f_enumerate := x.f_enumerate
  f_abs := x.f_abs
  f_int := x.f_int
  g2 := let ⟨a, cdv, h1, h2⟩ := x.g2; ⟨a, cdv, h1, h2.keeps k⟩
  g7 := let ⟨a, cdv, h1, h2⟩ := x.g7; ⟨a, cdv, h1, h2.keeps k⟩
  g9 := let ⟨a, cdv, h1, h2⟩ := x.g9; ⟨a, cdv, h1, h2.keeps k⟩
  g11 := let ⟨a, cdv, h1, h2⟩ := x.g11; ⟨a, cdv, h1, h2.keeps k⟩
  g12 := let ⟨a, cdv, h1, h2⟩ := x.g12; ⟨a, cdv, h1, h2.keeps k⟩
  g13 := let ⟨a, cdv, h1, h2⟩ := x.g13; ⟨a, cdv, h1, h2.keeps k⟩
  g14 := let ⟨a, cdv, h1, h2⟩ := x.g14; ⟨a, cdv, h1, h2.keeps k⟩
  g15 := let ⟨a, cdv, h1, h2⟩ := x.g15; ⟨a, cdv, h1, h2.keeps k⟩
  g16 := let ⟨a, cdv, h1, h2⟩ := x.g16; ⟨a, cdv, h1, h2.keeps k⟩
  pat1 := let ⟨p, h1, h2⟩ := x.pat1; ⟨p, h1, h2.keeps k⟩
  pat2 := let ⟨p, h1, h2⟩ := x.pat2; ⟨p, h1, h2.keeps k⟩
  crlf := x.crlf

/-- room for calls -/
structure Rm (A : Around) (k : Nat) : Prop where
  hh : A.handled = none
  depth : A.depth + k < 900
  units : A.units + 40 * k < 9000
theorem Rm.deeper {A : Around} {k : Nat} (x : Rm A (k + 1)) (env : Env) : Rm (A.deeper env) k :=
  ⟨x.hh, by have := x.depth; show A.depth + 1 + k < 900; omega, by have := x.units; show A.units + 3 + 40 * k < 9000; omega⟩
theorem Rm.room {A : Around} {k : Nat} (x : Rm A k) : A.depth < recursionLimit := by have := x.depth; show A.depth < 1000; omega

section
variable {prog : Program} {w : World} {A : Around} {E : Value → Shared → Prop} {s : Shared} {mg mb : Str → Option Value}

theorem wp_enter {R : Result → Shared → Prop} {a : Addr} {name : Str} {i : Nat} {cdv : Value} {vals : List Value} {binds : List (Str × Value)} (F : FnAt s.heap a name i cdv) (W : Wd mg mb s.heap) (hroom : A.depth < recursionLimit)
    (hbind : ∀ doc pm ct an, bindArgs (fnOf name name (argsOf i) (bodyOf i) (scopeOf i) .none .none doc pm an cdv ct) ⟨vals, []⟩ = pure binds)
    (hcell : ∀ x ∈ (scopeOf i).names, x.2 ≠ .cell) (hloc : (binds.all fun x => decide ((scopeOf i).names.lookup x.1 = some .local)) = true)
    (h : ∀ s₁, InCall s s.heap.objs.size (fun x => binds.reverse.lookup x) s₁ →
      wpAny (model prog w) (A.deeper (envOf name (scopeOf i) s.heap.objs.size a cdv)) (execs (bodyOf i) (envOf name (scopeOf i) s.heap.objs.size a cdv)) (fun f s' => R (.ok (.ret (match f with | .ret v => v | _ => .none))) s') No s₁)
    (hco : (scopeOf i).isCoroutine = false := by rfl) (hgen : (scopeOf i).isGenerator = false := by rfl) (hk : (scopeOf i).kind = .function := by rfl) :
    codeAny (model prog w) A (.call (.ref a) ⟨vals, []⟩) R s := by
  obtain ⟨o, doc, pm, ct, an, ho, hd, hc⟩ := F
  exact codeAny_call_straight (fd := fnOf name name (argsOf i) (bodyOf i) (scopeOf i) .none .none doc pm an cdv ct) hroom ho hd W.lim hc rfl (hbind doc pm ct an) hcell (locs hloc) (fun s₁ x => wp_no (h s₁ x)) hco hgen hk
end

end Mine
end
section -- D4
namespace Mine
open PySem PySem.W PySem.Calls PyProof.Rows
set_option maxRecDepth 100000

def setStep (acc : Tb) (p : Str × Int) : Tb := put acc p.1 p.2
def addStep (acc : Tb) (p : Str × Int) : Tb := put acc p.1 ((get acc p.1).getD 0 + p.2)
def addT (T U : Tb) : Tb := U.foldl addStep (T.foldl setStep [])

theorem put_length (T : Tb) (k : Str) (c : Int) : (put T k c).length ≤ T.length + 1 := by
  unfold put; split <;> simp
theorem foldl_length {f : Tb → Str × Int → Tb} (hf : ∀ acc p, (f acc p).length ≤ acc.length + 1) : ∀ (U acc : Tb), (U.foldl f acc).length ≤ acc.length + U.length
  | [], acc => by simp
  | p :: U, acc => by
    have h1 := foldl_length hf U (f acc p)
    have h2 := hf acc p
    simp only [List.foldl_cons, List.length_cons]; omega
theorem setStep_length (acc : Tb) (p : Str × Int) : (setStep acc p).length ≤ acc.length + 1 := put_length ..
theorem addStep_length (acc : Tb) (p : Str × Int) : (addStep acc p).length ≤ acc.length + 1 := put_length ..

section
variable {prog : Program} {w : World} {A : Around} {E : Value → Shared → Prop} {s : Shared} {mg mb : Str → Option Value}

theorem take_next {α : Type} {l : List α} {i : Nat} {x : α} (h : l[i]? = some x) : l.take (i + 1) = l.take i ++ [x] := by
  rw [List.take_add_one, h]; rfl

theorem nm {M : Model} {env : Env} {x : Str} {pos : Pos} {m : Str → Option Value} {v : Value} {Q : Value → Shared → Prop} (hn : s.heap.Ns env.locals m) (hv : m x = some v) (h : Q v s)
    (hk : env.scope.kind = .function := by rfl) (hl : env.kindOf x = some .local := by rfl) (hd : (x == ("__debug__" : Str)) = false := by decide) : wpAny M A (eval (.Name x pos) env) Q E s :=
  wpAny_Name (wpAny_loadName_local hk hl hn hv h) hd

/-- a built-in's name -/
theorem nb {env : Env} {x : Str} {pos : Pos} {v : Value} {Q : Value → Shared → Prop} (W : Wd mg mb s.heap) (hf : mg x = none) (hv : bootBuiltins x = some v) (h : Q v s)
    (hg : env.globals = mainGlobals := by rfl) (hb : env.builtins = builtinsNs := by rfl) (hne : x ≠ "__name__" := by decide)
    (hk : env.scope.kind = .function := by rfl) (hx : env.kindOf x = some .globalImplicit := by rfl) (hd : (x == ("__debug__" : Str)) = false := by decide) : wpAny (model prog w) A (eval (.Name x pos) env) Q E s :=
  Name_function_global hk hx (loadGlobal_builtin (hg ▸ W.g) hf (hb ▸ W.b) ((W.bi x hne).trans hv) h) hd
/-- a global's name -/
theorem ng {env : Env} {x : Str} {pos : Pos} {v : Value} {Q : Value → Shared → Prop} (W : Wd mg mb s.heap) (hv : mg x = some v) (h : Q v s)
    (hg : env.globals = mainGlobals := by rfl)
    (hk : env.scope.kind = .function := by rfl) (hx : env.kindOf x = some .globalImplicit := by rfl) (hd : (x == ("__debug__" : Str)) = false := by decide) : wpAny (model prog w) A (eval (.Name x pos) env) Q E s :=
  Name_function_global hk hx (loadGlobal_global (hg ▸ W.g) hv h) hd

theorem notSys {h : Heap} (W : Wd mg mb h) {d : Addr} (hd : h.objs.size ≤ d) : (d == sysModules) = false := by
  have h1 : mainGlobals < h.objs.size := W.g.lt
  have h2 : sysModules < mainGlobals := by decide
  have h3 : d ≠ sysModules := by
    intro e; subst e
    exact absurd (Nat.lt_of_lt_of_le (Nat.lt_trans h2 h1) hd) (Nat.lt_irrefl _)
  simpa using h3

theorem get_eq_valueAt {kvs : List (Str × Value)} {T : Tb} (h : IsT kvs T) (k : Str) : (valueAt kvs k).isSome = (get T k).isSome := by
  cases e : get T k with
  | none => rw [h.get_none e]; rfl
  | some c => obtain ⟨t, e'⟩ := h.get_some e; rw [e']; rfl

set_option maxHeartbeats 8000000 in
theorem call_add {a t u : Addr} {cdv : Value} {T U : Tb} {R : Result → Shared → Prop} (F : FnAt s.heap a "add_callers" 2 cdv) (W : Wd mg mb s.heap) (rm : Rm A 2)
    (ht : Tab prog w s.heap t T) (hu : Tab prog w s.heap u U) (hsz : T.length + U.length ≤ 90000) (htS : (t == sysModules) = false) (huS : (u == sysModules) = false)
    (h : ∀ d h' tk, s.heap.objs.size ≤ d → Kp s.heap h' → Tab prog w h' d (addT T U) → R (.ok (.ret (.ref d))) { s with heap := h', toks := tk }) :
    codeAny (model prog w) A (.call (.ref a) ⟨[.ref t, .ref u], []⟩) R s := by
  refine wp_enter (binds := [("target", .ref t), ("source", .ref u)]) F W rm.room (fun _ _ _ _ => by rfl) (by decide) (by rfl) fun s₁ x => ?_
  generalize hL : s.heap.objs.size = L at x ⊢
  generalize hA : A.deeper (envOf "add_callers" (scopeOf 2) L a cdv) = A'
  have hh : A'.handled = none := by rw [← hA]; exact rm.hh
  -- new_callers = {}
  refine wpAny_execs_cons (wpAny_Assign_Name (wpAny_Dict_empty ?_))
  have hL1 : L < s₁.heap.objs.size := x.ns.lt
  have htab := Tab.new (prog := prog) (w := w) s₁.heap
  have keep1 : Kp s.heap s₁.heap := x.keep
  have hns1 := x.ns
  obtain ⟨H1, tk1, rfl⟩ := x.same
  dsimp only at hL1 htab keep1 hns1 ⊢
  generalize hd : H1.objs.size = d at htab hL1 ⊢
  have htd : t < H1.objs.size := (ht.keeps keep1).lt
  have hud : u < H1.objs.size := (hu.keeps keep1).lt
  rw [hd] at htd hud
  have htL : t < L := hL ▸ ht.lt
  have huL : u < L := hL ▸ hu.lt
  have keep2 : Kp s.heap (H1.push { cls := .type "dict", data := .dict #[] }) := fun b o e => Heap.get?_push_of_some _ (keep1 b o e)
  have hns2 := hns1.push { cls := .type "dict", data := .dict #[] }
  generalize H1.push { cls := .type "dict", data := .dict #[] } = H2 at htab keep2 hns2 ⊢
  refine wpAny_storeName_local (env := envOf "add_callers" (scopeOf 2) L a cdv) rfl hns2 (fun H3 hns3 hs3 => ?_) rfl
  have hL3 : L < H2.objs.size := hns2.lt
  have keep3 : Kp s.heap H3 := fun b o e => hs3.extBut b o (Nat.ne_of_lt (hL ▸ Heap.lt_size e)) (keep2 b o e)
  have htab3 : Tab prog w H3 d [] := htab.keep fun o e => hs3.extBut d o (Nat.ne_of_gt hL1) e
  have hd3 : d < H3.objs.size := htab3.lt
  -- for func, caller in target.items(): new_callers[func] = caller
  refine wpAny_execs_cons (For_items (m := _) (d := t) (T := T) hh rfl rfl rfl htS (Nat.ne_of_lt htL) [d] ?_ (ht.keeps keep3) hns3 rfl rfl (fun Q' q => nm hns3 rfl q)
    (fun i m h => m "source" = some (.ref u) ∧ m "new_callers" = some (.ref d) ∧ Tab prog w h d ((T.take i).foldl setStep [])) ?_ ?_ ?_ ?_)
  · intro c hc
    simp only [List.mem_singleton] at hc
    subst hc
    exact ⟨Nat.ne_of_gt htd, Nat.ne_of_gt hL1, hd3⟩
  · rintro i m h h' ⟨j1, j2, j3⟩ hk
    exact ⟨j1, j2, j3.keep fun o e => hk d (by simp) o e⟩
  · exact ⟨rfl, rfl, htab3⟩
  · rintro i k c tt tt' s₁ m₁ hT ⟨j1, j2, j3⟩ hn₁ hk₁
    refine wpAny_execs_cons (wpAny_Assign_Subscript (nm hn₁ rfl (nm hn₁ (show m₁ "new_callers" = _ from j2) (nm hn₁ rfl ?_))))
    obtain ⟨kvs, hdd, hi⟩ := j3
    have hlen := hi.length
    have hle := foldl_length setStep_length (T.take i) []
    have hle2 : (T.take i).length ≤ T.length := by simp; omega
    have hsl : (100000 : Nat) ≤ sizeLine := by decide
    refine wpAny_setItem_pairs (hsz := by simp at hle; omega) (strKind_is prog w k tt') hdd fun h₂ hd₂ hs₂ => ?_
    refine wpAny_execs_nil ⟨rfl, h₂, _, _, rfl, hn₁.sameBut hs₂ (Nat.ne_of_lt hL1), ⟨j1, j2, _, hd₂, ?_⟩, fun c o c1 c2 e => hs₂.extBut c o (by simpa using c2) e⟩
    rw [take_next hT, List.foldl_append]
    exact hi.store k c tt
  intro H4 tk4 m4 hns4 ⟨j1, j2, j3⟩ hk4
  rw [List.take_length] at j3
  have hk4' : ∀ c o, c ≠ L → c ≠ d → H3.get? c = some o → H4.get? c = some o := fun c o c1 c2 e => hk4 c o c1 (by simpa using c2) e
  have keep4 : Kp s.heap H4 := fun b o e => by
    have hb : b < L := hL ▸ Heap.lt_size e
    exact hk4' b o (Nat.ne_of_lt hb) (Nat.ne_of_lt (Nat.lt_trans hb hL1)) (keep3 b o e)
  -- for func, caller in source.items(): ..
  refine wpAny_execs_cons (For_items (m := _) (d := u) (T := U) hh rfl rfl rfl huS (Nat.ne_of_lt huL) [d] ?_ (hu.keeps keep4) hns4 rfl rfl (fun Q' q => nm hns4 j1 q)
    (fun i m h => m "new_callers" = some (.ref d) ∧ Tab prog w h d ((U.take i).foldl addStep (T.foldl setStep []))) ?_ ?_ ?_ ?_)
  · intro c hc
    simp only [List.mem_singleton] at hc
    subst hc
    exact ⟨Nat.ne_of_gt hud, Nat.ne_of_gt hL1, j3.lt⟩
  · rintro i m h h' ⟨j2, j3⟩ hk
    exact ⟨j2, j3.keep fun o e => hk d (by simp) o e⟩
  · exact ⟨j2, j3⟩
  · rintro i k c tt tt' s₁ m₁ hT ⟨j2, j3⟩ hn₁ hk₁
    have keep5 : Kp s.heap s₁.heap := fun b o e => by
      have hb : b < L := hL ▸ Heap.lt_size e
      exact hk₁ b o (Nat.ne_of_lt hb) (by simpa using Nat.ne_of_lt (Nat.lt_trans hb hL1)) (keep4 b o e)
    have W₁ := W.keeps keep5
    obtain ⟨kvs, hdd, hi⟩ := j3
    have hlen := hi.length
    have hle := foldl_length addStep_length (U.take i) (T.foldl setStep [])
    have hle1 := foldl_length setStep_length T []
    have hle2 : (U.take i).length ≤ U.length := by simp; omega
    have hsl : (100000 : Nat) ≤ sizeLine := by decide
    have hkl : kvs.length ≤ sizeLine := by simp at hle1; omega
    have hdS : (d == sysModules) = false := notSys W (hL ▸ Nat.le_of_lt hL1)
    have hput : (U.take (i + 1)).foldl addStep (T.foldl setStep []) = put ((U.take i).foldl addStep (T.foldl setStep [])) k ((get ((U.take i).foldl addStep (T.foldl setStep [])) k).getD 0 + c) := by
      rw [take_next hT, List.foldl_append]; rfl
    refine wpAny_execs_cons (wpAny_If (wpAny_isTrue_Compare1 (nm hn₁ rfl (nm hn₁ (show m₁ "new_callers" = _ from j2) (wpAny_in_of (strKind_is prog w k tt') hdS hdd.mapOf (wpAny_truthy_bool ?_))))))
    rw [get_eq_valueAt hi k]
    cases hg : get ((U.take i).foldl addStep (T.foldl setStep [])) k with
    | none =>
      rw [hg] at hput
      rw [if_neg (by simp)]
      refine wpAny_execs_cons (wpAny_Assign_Subscript (nm hn₁ rfl (nm hn₁ (show m₁ "new_callers" = _ from j2) (nm hn₁ rfl ?_))))
      refine wpAny_setItem_pairs (hsz := hkl) (strKind_is prog w k tt') hdd fun h₂ hd₂ hs₂ => ?_
      refine wpAny_execs_nil (wpAny_execs_nil ⟨rfl, h₂, _, _, rfl, hn₁.sameBut hs₂ (Nat.ne_of_lt hL1), ⟨j2, _, hd₂, ?_⟩, fun c o c1 c2 e => hs₂.extBut c o (by simpa using c2) e⟩)
      rw [hput]
      simpa using hi.store k c tt
    | some c' =>
      rw [hg] at hput
      rw [if_pos (by simp)]
      refine wpAny_execs_cons ?_
      refine wpAny_If ?_
      refine isTrue_plain ?_
      refine Call_ ?_
      refine nb W₁ W.f_isinstance PyProof.Rows.Boot.«isinstance» ?_
      refine PyProof.Rows.callWith_builtin1 ?_
      refine args_cons ?_
      refine nm hn₁ rfl ?_
      refine args_cons ?_
      refine nb W₁ W.f_tuple PyProof.Rows.Boot.«tuple» ?_
      refine args_nil ?_
      refine IsiPair.int_tuple ?_
      refine wpAny_truthy_bool ?_
      rw [if_neg (by simp)]
      obtain ⟨t₂, hv⟩ := hi.get_some hg
      refine wpAny_execs_cons (wpAny_AugAssign_Subscript (nm hn₁ (show m₁ "new_callers" = _ from j2) (nm hn₁ rfl (wpAny_getItem_of (strKind_is prog w k tt') hdd.mapOf hv (nm hn₁ rfl (iadd_int ?_))))))
      refine wpAny_setItem_pairs (hsz := hkl) (strKind_is prog w k tt') hdd fun h₂ hd₂ hs₂ => ?_
      refine wpAny_execs_nil (wpAny_execs_nil (wpAny_execs_nil ⟨rfl, h₂, _, _, rfl, hn₁.sameBut hs₂ (Nat.ne_of_lt hL1), ⟨j2, _, hd₂, ?_⟩, fun c o c1 c2 e => hs₂.extBut c o (by simpa using c2) e⟩))
      rw [hput]
      exact hi.store k _ _
  · intro H5 tk5 m5 hns5 ⟨j2, j3⟩ hk5
    rw [List.take_length] at j3
    refine wpAny_execs_cons (wpAny_Return_some (nm hns5 j2 ?_))
    refine h d H5 tk5 ?_ ?_ j3
    · rw [hL]; exact Nat.le_of_lt hL1
    · intro b o e
      have hb : b < L := hL ▸ Heap.lt_size e
      exact hk5 b o (Nat.ne_of_lt hb) (by simpa using Nat.ne_of_lt (Nat.lt_trans hb hL1)) (keep4 b o e)
end
end Mine
end
section -- D5
namespace Mine
open PySem PySem.W PyProof.Rows
set_option maxRecDepth 100000

section
variable {prog : Program} {w : World} {A : Around} {E : Value → Shared → Prop} {s : Shared} {mg mb : Str → Option Value}

theorem Pat.noDict {h : Heap} {p : Addr} {code : Array Nat} (P : Pat h p code) : ∀ b, Value.ref p = .ref b → ∃ ob, h.get? b = some ob ∧ ob.dict = none :=
  fun b e => by injection e with e; subst e; obtain ⟨op, _, _, _, _, _, a1, _, a3, _⟩ := P; exact ⟨op, a1, a3⟩

theorem ofArr (x : Str) (l : List Nat) (h : x.cps.toList = l) : x = ⟨l.toArray⟩ := by
  obtain ⟨c⟩ := x; subst h; simp

set_option maxHeartbeats 8000000 in
theorem call_quote {a : Addr} {cdv : Value} {e : List Nat} {rs : List (List Nat)} {t : Tok} {R : Result → Shared → Prop} (F : FnAt s.heap a "quotedata" 7 cdv) (W : Wd mg mb s.heap) (rm : Rm A 2)
    (he : EndOk e) (hrs : ∀ r ∈ rs, DotRow r) (hz : (joinE e rs).length ≤ 300000) (hz1 : (joinE [13, 10] rs).length ≤ 300000) (hz2 : (joinE [13, 10] (rs.map (46 :: ·))).length ≤ 300000)
    (h : ∀ h' tk tk', Kp s.heap h' → R (.ok (.ret (.str ⟨(joinE [13, 10] (rs.map (46 :: ·))).toArray⟩ tk'))) { s with heap := h', toks := tk }) :
    codeAny (model prog w) A (.call (.ref a) ⟨[.str ⟨(joinE e rs).toArray⟩ t], []⟩) R s := by
  refine wp_enter (binds := [("data", .str ⟨(joinE e rs).toArray⟩ t)]) F W rm.room (fun _ _ _ _ => by rfl) (by decide) (by rfl) fun s₁ x => ?_
  generalize hL : s.heap.objs.size = L at x ⊢
  generalize hA : A.deeper (envOf "quotedata" (scopeOf 7) L a cdv) = A'
  have hh : A'.handled = none := by rw [← hA]; exact rm.hh
  have keep1 : Kp s.heap s₁.heap := x.keep
  have hns1 := x.ns
  obtain ⟨H1, tk1, rfl⟩ := x.same
  dsimp only at keep1 hns1 ⊢
  have W1 := W.keeps keep1
  obtain ⟨p1, hp1, P1⟩ := W1.pat1
  obtain ⟨p2, hp2, P2⟩ := W1.pat2
  obtain ⟨tc, hcr⟩ := W1.crlf
  have hne : ∀ r ∈ rs, NoEnd r ∧ r ≠ [] := fun r hr => by
    obtain ⟨t, rfl, ht⟩ := hrs r hr
    refine ⟨fun c hc => ?_, by simp⟩
    rcases List.mem_cons.mp hc with rfl | hc
    · decide
    · exact ht c hc
  refine wpAny_execs_cons (wpAny_Return_some ?_)
  refine wpAny_Call_method2_late rfl rfl rfl ?_
  refine ng W1 hp1 ?_
  refine ⟨"re.Pattern", "re.Pattern.sub", plainAttrs_pat, slot_sub, type_sub, P1.typeIs, P1.noDict, ?_⟩
  refine Calls.callWith_builtin rfl (Calls.evalArgs_plain (Calls.spliced_cons ?_))
  refine Calls.Constant_str (Calls.spliced_cons ?_)
  refine wpAny_Call_method2_late rfl rfl rfl ?_
  refine ng W1 hp2 ?_
  refine ⟨"re.Pattern", "re.Pattern.sub", plainAttrs_pat, slot_sub, type_sub, P2.typeIs, P2.noDict, ?_⟩
  refine Calls.callWith_builtin rfl (Calls.evalArgs_plain (Calls.spliced_cons ?_))
  refine ng W1 hcr (Calls.spliced_cons ?_)
  refine nm hns1 rfl (Calls.spliced_nil ?_)
  have hcrlf : (Str.ofString "\r\n") = ⟨#[13, 10]⟩ := by decide
  have hdots : (Str.ofString "..") = ⟨#[46, 46]⟩ := by decide
  rw [hcrlf, hdots]
  refine call_sub (x := ⟨(joinE e rs).toArray⟩) (rep := ⟨#[13, 10]⟩) P2 (by simp; omega) (by decide +kernel) (subrun2_all he rs hne) (by simp; omega) fun h₂ tk₂ tk₂' hk₂ => ?_
  refine Calls.spliced_nil ?_
  refine call_sub (x := ⟨(joinE [13, 10] rs).toArray⟩) (rep := ⟨#[46, 46]⟩) (P1.keeps hk₂) (by simp; omega) (by decide +kernel) (subrun1_all rs hrs (by omega)) (by simp; omega) fun h₃ tk₃ tk₃' hk₃ => ?_
  exact h h₃ tk₃ tk₃' fun b o q => hk₃ b o (hk₂ b o (keep1 b o q))
end
end Mine
end
section -- S0
namespace Mine
open PySem PySem.W PySem.Builtin PySem.Builtin.Str PySem.StrLaws
set_option maxRecDepth 100000

def crlf : Str := ⟨#[13, 10]⟩

theorem at_iff {l : List Nat} {k : Nat} : At ⟨l.toArray⟩ crlf (⟨l.toArray⟩ : Str).length k ↔ (l.drop k).take 2 = [13, 10] := by
  unfold At
  rw [subAt_eq]
  simp only [crlf, Str.length, List.size_toArray, beq_iff_eq]
  show k + 2 ≤ l.length ∧ (l.drop k).take 2 = [13, 10] ↔ _
  constructor
  · exact fun h => h.2
  · intro h
    refine ⟨?_, h⟩
    have := congrArg List.length h
    simp at this
    omega

theorem notAt {l : List Nat} {k : Nat} (h : l[k]? ≠ some 13) : ¬ At ⟨l.toArray⟩ crlf (⟨l.toArray⟩ : Str).length k := by
  rw [at_iff]
  intro e
  apply h
  have : ((l.drop k).take 2)[0]? = some 13 := by rw [e]; rfl
  simpa using this

theorem parts_rows : ∀ (rs : List (List Nat)) (pre r : List Nat) (cuts : List Nat) (f : Nat), (13 ∉ r) → (∀ x ∈ rs, 13 ∉ x) →
    ChainG ⟨(pre ++ r ++ tailE [13, 10] rs).toArray⟩ crlf (⟨(pre ++ r ++ tailE [13, 10] rs).toArray⟩ : Str).length pre.length cuts f →
    (∀ k, f ≤ k → ¬ At ⟨(pre ++ r ++ tailE [13, 10] rs).toArray⟩ crlf (⟨(pre ++ r ++ tailE [13, 10] rs).toArray⟩ : Str).length k) →
    (partsFrom ⟨(pre ++ r ++ tailE [13, 10] rs).toArray⟩ 2 pre.length cuts).map (·.cps.toList) = r :: rs := by
  intro rs
  induction rs with
  | nil =>
    intro pre r cuts f hr _ hc hf
    have none : ∀ k, pre.length ≤ k → ¬ At ⟨(pre ++ r ++ tailE [13, 10] []).toArray⟩ crlf (⟨(pre ++ r ++ tailE [13, 10] []).toArray⟩ : Str).length k := fun k hk => notAt fun e => by
      simp only [tailE, List.append_nil] at e
      rw [List.getElem?_append_right hk] at e
      exact hr (List.mem_of_getElem? e)
    cases cuts with
    | cons c cs => exact absurd hc.2.1 (none c hc.1)
    | nil =>
      simp only [partsFrom, List.map_cons, List.map_nil, strSub_toList, tailE, List.append_nil, Str.length, List.size_toArray]
      rw [List.drop_left, List.take_of_length_le (by simp)]
  | cons r' rs ih =>
    intro pre r cuts f hr hrs hc hf
    have hform : pre ++ r ++ tailE [13, 10] (r' :: rs) = (pre ++ r) ++ ([13, 10] ++ (r' ++ tailE [13, 10] rs)) := by simp [tailE]
    have hform2 : pre ++ r ++ tailE [13, 10] (r' :: rs) = (pre ++ r ++ [13, 10]) ++ r' ++ tailE [13, 10] rs := by simp [tailE]
    have hit : At ⟨(pre ++ r ++ tailE [13, 10] (r' :: rs)).toArray⟩ crlf (⟨(pre ++ r ++ tailE [13, 10] (r' :: rs)).toArray⟩ : Str).length (pre.length + r.length) := by
      rw [at_iff, hform, ← List.length_append, List.drop_left]; rfl
    have none : ∀ k, pre.length ≤ k → k < pre.length + r.length → ¬ At ⟨(pre ++ r ++ tailE [13, 10] (r' :: rs)).toArray⟩ crlf (⟨(pre ++ r ++ tailE [13, 10] (r' :: rs)).toArray⟩ : Str).length k := fun k hk hk2 => notAt fun e => by
      rw [List.append_assoc, List.getElem?_append_right hk, List.getElem?_append_left (by omega)] at e
      exact hr (List.mem_of_getElem? e)
    cases cuts with
    | nil =>
      have hfa : f = pre.length := hc
      exact absurd hit (hf _ (by omega))
    | cons c cs =>
      obtain ⟨h1, h2, h3, h4⟩ := hc
      have hce : c = pre.length + r.length := by
        rcases Nat.lt_trichotomy c (pre.length + r.length) with h | h | h
        · exact absurd h2 (none c h1 h)
        · exact h
        · exact absurd hit (h3 _ (by omega) h)
      subst hce
      have e2 : (crlf : Str).length = 2 := rfl
      rw [e2] at h4
      have hlen : pre.length + r.length + 2 = (pre ++ r ++ [13, 10]).length := by simp; omega
      have ih' := ih (pre ++ r ++ [13, 10]) r' cs f (hrs r' (.head _)) (fun x hx => hrs x (.tail _ hx)) (by rw [← hform2, ← hlen]; exact h4) (by rw [← hform2]; exact hf)
      rw [← hform2, ← hlen] at ih'
      show (strSub _ pre.length (pre.length + r.length)).cps.toList :: (partsFrom _ 2 (pre.length + r.length + 2) cs).map (·.cps.toList) = _
      rw [ih', strSub_toList]
      congr 1
      simp only [List.append_assoc, List.drop_left]
      rw [show pre.length + r.length - pre.length = r.length by omega, List.take_left]

theorem split_eq_parts (x : Str) : Txt.split x crlf = partsFrom x 2 0 (occurrences x crlf 0 x.length (x.length + 1)) := by
  obtain ⟨f, hc, hf⟩ := occ_tight x crlf (by decide)
  unfold Txt.split
  have nil : occurrences x crlf 0 x.length (x.length + 1) = [] → partsFrom x 2 0 (occurrences x crlf 0 x.length (x.length + 1)) = [x] := fun e => by
    rw [e]; show [strSub x 0 x.length] = [x]; rw [sub_whole]
  split
  · rename_i h
    have hk : ¬ Builtin.Str.strKind x < Builtin.Str.strKind crlf := by
      have : Builtin.Str.strKind crlf = 1 := by decide +kernel
      rw [this]
      have : 1 ≤ Builtin.Str.strKind x := by unfold Builtin.Str.strKind; split <;> (try split) <;> decide
      omega
    have hl : x.length < 2 := by
      simp only [Bool.or_eq_true, decide_eq_true_eq] at h
      rcases h with h | h
      · exact h
      · exact absurd h hk
    refine (nil ?_).symm
    cases e : occurrences x crlf 0 x.length (x.length + 1) with
    | nil => rfl
    | cons c cs =>
      rw [e] at hc
      have h2 := hc.2.1.1
      have e2 : (crlf : Str).length = 2 := rfl
      omega
  · split
    · rename_i h
      exact (nil (by simpa using h)).symm
    · rw [partsBetween_eq]; rfl

theorem split_rows (r : List Nat) (rs : List (List Nat)) (hr : 13 ∉ r) (hrs : ∀ x ∈ rs, 13 ∉ x) : Txt.split ⟨(joinE [13, 10] (r :: rs)).toArray⟩ crlf = (r :: rs).map fun l => (⟨l.toArray⟩ : Str) := by
  obtain ⟨f, hc, hf⟩ := occ_tight ⟨(joinE [13, 10] (r :: rs)).toArray⟩ crlf (by decide)
  rw [split_eq_parts]
  have := parts_rows rs [] r _ f hr hrs hc hf
  have inj : ∀ (a : List Str) (b : List (List Nat)), a.map (·.cps.toList) = b → a = b.map fun l => (⟨l.toArray⟩ : Str) := by
    intro a
    induction a with
    | nil => intro b h; subst h; rfl
    | cons x a ih =>
      intro b h
      cases b with
      | nil => simp at h
      | cons y b =>
        simp only [List.map_cons, List.cons.injEq] at h ⊢
        refine ⟨?_, ih b h.2⟩
        obtain ⟨c⟩ := x
        rw [← h.1]
  exact inj _ _ this

theorem glued_rows (e : Str) : ∀ (l : List Str), (glued e l).cps.toList = joinE e.cps.toList (l.map (·.cps.toList)) := by
  intro l
  rw [glued_eq_join]
  cases l with
  | nil => rfl
  | cons a l =>
    induction l generalizing a with
    | nil => simp [Str.join, joinE, tailE]
    | cons b l ih =>
      show (a ++ e ++ Str.join e (b :: l)).cps.toList = _
      simp only [Str.cps_append, Array.toList_append, ih b, joinE, tailE, List.map_cons]
      simp
end Mine
end
section -- D6
namespace Mine
open PySem PySem.W PyProof.Rows
set_option maxRecDepth 100000

def dot (k : Str) : Str := ⟨(46 :: k.cps.toList).toArray⟩
def sentT (T : Tb) : Tb := T.map fun p => (dot p.1, p.2)
/-- names of rows: a dot ahead, no end of line within; short -/
def RowsOk (T : Tb) : Prop := ∀ p ∈ T, DotRow p.1.cps.toList ∧ p.1.cps.toList.length ≤ 60

theorem dot_inj {a b : Str} (h : dot a = dot b) : a = b := by
  obtain ⟨a⟩ := a; obtain ⟨b⟩ := b
  have := congrArg (fun s : Str => s.cps.toList) h
  simp [dot] at this
  rw [this]

theorem tailE_len (e : List Nat) : ∀ (rs : List (List Nat)) (n : Nat), (∀ r ∈ rs, r.length ≤ n) → (tailE e rs).length ≤ rs.length * (n + e.length)
  | [], _, _ => by simp [tailE]
  | r :: rs, n, h => by
    have h1 := tailE_len e rs n fun x hx => h x (.tail _ hx)
    have h2 := h r (.head _)
    simp only [tailE, List.length_append, List.length_cons, Nat.add_mul, Nat.one_mul]
    omega
theorem joinE_len (e : List Nat) (rs : List (List Nat)) (n : Nat) (h : ∀ r ∈ rs, r.length ≤ n) : (joinE e rs).length ≤ rs.length * (n + e.length) := by
  cases rs with
  | nil => simp [joinE]
  | cons r rs =>
    have h1 := tailE_len e rs n fun x hx => h x (.tail _ hx)
    have h2 := h r (.head _)
    simp only [joinE, List.length_append, List.length_cons, Nat.add_mul, Nat.one_mul]
    omega

theorem put_fresh {T : Tb} {k : Str} {c : Int} (h : k ∉ T.map (·.1)) : put T k c = T ++ [(k, c)] := by
  unfold put
  rw [if_neg]
  intro e
  rw [List.any_eq_true] at e
  obtain ⟨p, hp, e⟩ := e
  exact h (List.mem_map.mpr ⟨p, hp, by simpa using e⟩)

theorem joinOk_small {sep : Str} {texts : List Str} (h : (texts.map (·.length)).sum + texts.length * sep.length ≤ 1000000) : JoinOk sep texts = true := by
  unfold JoinOk Builtin.Str.tooLong
  rw [StrLaws.joinTotal]
  have : (1000000 : Nat) ≤ sizeLine := by decide
  simp; omega

theorem sum_le {B : Nat} : ∀ (l : List Nat), (∀ x ∈ l, x ≤ B) → l.sum ≤ l.length * B
  | [], _ => by simp
  | x :: l, h => by
    have h1 := sum_le l fun y hy => h y (.tail _ hy)
    have h2 := h x (.head _)
    simp only [List.sum_cons, List.length_cons, Nat.add_mul, Nat.one_mul]; omega

/-- a list's values as texts -/
theorem strs_of_items {acc : Array Value} {ks : List Str} (hsz : acc.size = ks.length) (h : ∀ (j : Nat) v, acc[j]? = some v → ∃ k, ks[j]? = some k ∧ ∃ t, v = .str k t) : ∃ l : List (Str × Tok), acc = (strValues l).toArray ∧ l.map (·.1) = ks := by
  obtain ⟨xs⟩ := acc
  simp only [List.size_toArray, List.getElem?_toArray] at hsz h
  induction xs generalizing ks with
  | nil =>
    cases ks with
    | nil => exact ⟨[], rfl, rfl⟩
    | cons k ks => simp at hsz
  | cons v xs ih =>
    cases ks with
    | nil => simp at hsz
    | cons k ks =>
      obtain ⟨k', hk, t, rfl⟩ := h 0 v (by simp)
      simp at hk; subst hk
      obtain ⟨l, hl, hm⟩ := ih (ks := ks) (by simpa using hsz) fun j v hv => by simpa using h (j + 1) v (by simpa using hv)
      simp at hl
      exact ⟨(k, t) :: l, by simp [strValues] at hl ⊢; exact hl, by simp [hm]⟩

section
variable {prog : Program} {w : World} {A : Around} {E : Value → Shared → Prop} {s : Shared} {mg mb : Str → Option Value}

/-- list(table) -/
theorem call_listDict {d : Addr} {T : Tb} {Q : Value → Shared → Prop} (hh : A.handled = none) (hd : Tab prog w s.heap d T) (hdS : (d == sysModules) = false) (hz : T.length ≤ 100000)
    (h : ∀ D h' tk l, Kp s.heap h' → h'.IsList D (strValues l).toArray → l.map (·.1) = T.map (·.1) → Q (.ref D) { s with heap := h', toks := tk }) :
    wpAny (model prog w) A (call (.type "list") [.ref d]) Q E s := by
  obtain ⟨kvs, hdo, hi⟩ := hd
  obtain ⟨ep, hat⟩ := hdo.dictAt
  have hlen := hi.length
  have hsl : (100000 : Nat) ≤ sizeLine := by decide
  refine kdl_call (kdl_dict (knd := strKind prog w) (kvs := kvs) (ep := ep) hdS) hh hat (by omega) fun h' tk acc' c' hk hS hacc => ?_
  obtain ⟨l, rfl, hl⟩ := strs_of_items (acc := acc') (ks := T.map (·.1)) (by rw [hacc.1, hlen]; simp) fun j v hv => by
    obtain ⟨k, x, hx, hkey⟩ := hacc.2 j v hv
    obtain ⟨c, t, rfl, hT⟩ := hi.at hx
    obtain ⟨t', rfl⟩ := Value.isStrOf_shape hkey
    exact ⟨k, by simp [hT], t', rfl⟩
  exact h _ h' tk l hk ⟨_, hS, rfl, _, rfl⟩ hl

/-- list(table.values()) -/
theorem call_listVals {d v : Addr} {T : Tb} {Q : Value → Shared → Prop} (hh : A.handled = none) (hd : Tab prog w s.heap d T) (hv : s.heap.IsValuesView v d) (hz : T.length ≤ 100000)
    (h : ∀ D h' tk (acc : Array Value), Kp s.heap h' → h'.IsList D acc → acc.size = T.length → (∀ (j : Nat) x, acc[j]? = some x → ∃ p t, T[j]? = some p ∧ x = .int p.2 t) → Q (.ref D) { s with heap := h', toks := tk }) :
    wpAny (model prog w) A (call (.type "list") [.ref v]) Q E s := by
  obtain ⟨kvs, hdo, hi⟩ := hd
  obtain ⟨ep, hat⟩ := hdo.dictAt
  have hlen := hi.length
  have hsl : (100000 : Nat) ≤ sizeLine := by decide
  refine kdl_call (kdl_values (knd := strKind prog w) (kvs := kvs) (ep := ep)) hh ⟨hv, hat⟩ (by omega) fun h' tk acc' c' hk hS hacc => ?_
  refine h _ h' tk acc' hk ⟨_, hS, rfl, _, rfl⟩ (by rw [hacc.1, hlen]) fun j x hx => ?_
  obtain ⟨k, hx'⟩ := hacc.2 j x hx
  obtain ⟨c, t, rfl, hT⟩ := hi.at hx'
  exact ⟨_, t, hT, rfl⟩
end
end Mine
end
section -- D7
namespace Mine
open PySem PySem.W PyProof.Rows
set_option maxRecDepth 100000

section
variable {prog : Program} {w : World} {A : Around} {E : Value → Shared → Prop} {s : Shared} {mg mb : Str → Option Value}

theorem wp_Call_values {env : Env} {o : PySem.Expr} {apos pos : Pos} {d : Addr} {T : Tb} {Q : Value → Shared → Prop} (hdS : (d == sysModules) = false) (hd : Tab prog w s.heap d T)
    (hbase : attributeBase o "values" env (eval o env) = eval o env) (hline : (apos.endLine == pos.line) = true)
    (ho : ∀ Q', Q' (.ref d) s → wpAny (model prog w) A (eval o env) Q' E s)
    (hQ : ∀ h' v, Kp s.heap h' → h'.IsValuesView v d → Q (.ref v) { s with heap := h' }) :
    wpAny (model prog w) A (eval (.Call (.Attribute o "values" apos) [] [] pos) env) Q E s := by
  obtain ⟨kvs, hm, hi⟩ := hd
  refine wpAny_Call_method (T := "dict") (id := "dict.values") hbase rfl hline F.plainAttrs_dict F.slot_dict_values F.type_dict_values (ho _ ⟨hm.typeIs, hm.mapOf.noDict, ?_⟩)
  show wpAny _ _ (callWith pos (.builtin "dict.values") [.ref d] [] []) Q E s
  exact method_meetsIn F.slot_dict_values F.entry_dict_values rfl (PySem.evalArgs_none ⟨rfl, hm.typeIs, F.args_dict_values_1 _, _, meets_dict_values (strKind prog w) d hdS, ⟨kvs, hm⟩,
    hQ _ _ (fun b o e => Heap.get?_push_of_some _ e) ⟨_, Heap.get?_push_size _ rfl, rfl, rfl⟩⟩)

theorem Rm.mono {A : Around} {j k : Nat} (x : Rm A k) (h : j ≤ k) : Rm A j :=
  ⟨x.hh, by have := x.depth; omega, by have := x.units; omega⟩

theorem zipApart_nat (N D1 D2 : Nat) (h1 : D1 < N) (h2 : D2 < N) : ZipApart (N + 4) (N + 2) (N + 3) N (N + 1) D1 D2 := by
  constructor <;> (refine neN ?_; omega)

theorem zip_fp {N D1 D2 b M : Nat} (h1 : D1 < N) (h2 : D2 < N) (hM : M = N + 5) (h : b ∈ [N + 4, N + 2, N + 3, N, N + 1, D1, D2]) : b < M := by
  simp only [List.mem_cons, List.not_mem_nil, or_false] at h; omega
theorem zip_wr {N b : Nat} (h : b < N) : b ∉ [N + 4, N + 3, N, N + 1] := by
  simp only [List.mem_cons, List.not_mem_nil, or_false]; omega

theorem keeps_refl (s : Shared) : Keeps s s := ⟨s.heap, s.toks, rfl, fun _ _ e => e⟩

theorem sent_take {T : Tb} {i : Nat} {p : Str × Int} (h : T[i]? = some p) (hn : (T.map (·.1)).Nodup) : sentT (T.take (i + 1)) = put (sentT (T.take i)) (dot p.1) p.2 := by
  rw [put_fresh]
  · rw [take_next h]; simp [sentT]
  · intro hm
    simp only [sentT, List.map_map, List.mem_map, Function.comp] at hm
    obtain ⟨q, hq, e⟩ := hm
    have e' := dot_inj e
    obtain ⟨j, hj, hqj⟩ := List.mem_take_iff_getElem.mp hq
    have hlt : i < T.length := (List.getElem?_eq_some_iff.mp h).1
    have hpi : T[i] = p := (List.getElem?_eq_some_iff.mp h).2
    have hji : j < i := by omega
    have := List.pairwise_iff_getElem.mp hn j i (by simp; omega) (by simpa using hlt) hji
    simp only [List.getElem_map] at this
    rw [hqj, hpi] at this
    exact this e'

set_option maxHeartbeats 8000000 in
theorem call_sent {a t : Addr} {cdv : Value} {T : Tb} {e : Str} {te : Tok} {R : Result → Shared → Prop} (F : FnAt s.heap a "_law_sent" 12 cdv) (W : Wd mg mb s.heap) (rm : Rm A 4)
    (ht : Tab prog w s.heap t T) (he : EndOk e.cps.toList) (hT : RowsOk T) (hz : T.length ≤ 4000) (htS : (t == sysModules) = false)
    (h : ∀ d h' tk, s.heap.objs.size ≤ d → Kp s.heap h' → Tab prog w h' d (sentT T) → R (.ok (.ret (.ref d))) { s with heap := h', toks := tk }) :
    codeAny (model prog w) A (.call (.ref a) ⟨[.ref t, .str e te], []⟩) R s := by
  have hkeep : ∀ r ∈ T.map (fun p => p.1.cps.toList), DotRow r := fun r hr => by
    obtain ⟨p, hp, rfl⟩ := List.mem_map.mp hr; exact (hT p hp).1
  have hlen : ∀ r ∈ T.map (fun p => p.1.cps.toList), r.length ≤ 60 := fun r hr => by
    obtain ⟨p, hp, rfl⟩ := List.mem_map.mp hr; exact (hT p hp).2
  have hlen2 : ∀ r ∈ (T.map (fun p => p.1.cps.toList)).map (46 :: ·), r.length ≤ 61 := fun r hr => by
    obtain ⟨r', hr', rfl⟩ := List.mem_map.mp hr
    have := hlen r' hr'
    simp; omega
  have hel : e.cps.toList.length ≤ 2 := by rcases he with h | h | h <;> rw [h] <;> decide
  have hn := ht.nodup
  have hz0 : (joinE e.cps.toList (T.map (fun p => p.1.cps.toList))).length ≤ 300000 := by
    have h1 := joinE_len e.cps.toList _ 60 hlen
    have h2 : (T.map (fun p => p.1.cps.toList)).length * (60 + e.cps.toList.length) ≤ 4000 * 62 := Nat.mul_le_mul (by simpa using hz) (by omega)
    omega
  have hz1 : (joinE [13, 10] (T.map (fun p => p.1.cps.toList))).length ≤ 300000 := by
    have h1 := joinE_len [13, 10] _ 60 hlen
    have h2 : (T.map (fun p => p.1.cps.toList)).length * (60 + 2) ≤ 4000 * 62 := Nat.mul_le_mul (by simpa using hz) (by omega)
    simp only [List.length_cons, List.length_nil] at h1
    omega
  have hz2 : (joinE [13, 10] ((T.map (fun p => p.1.cps.toList)).map (46 :: ·))).length ≤ 300000 := by
    have h1 := joinE_len [13, 10] _ 61 hlen2
    have h2 : ((T.map (fun p => p.1.cps.toList)).map (46 :: ·)).length * (61 + 2) ≤ 4000 * 63 := Nat.mul_le_mul (by simpa using hz) (by omega)
    simp only [List.length_cons, List.length_nil] at h1
    omega
  refine wp_enter (binds := [("table", .ref t), ("end", .str e te)]) F W rm.room (fun _ _ _ _ => by rfl) (by decide) (by rfl) fun s₁ x => ?_
  generalize hL : s.heap.objs.size = L at x ⊢
  have rm' := rm.deeper (envOf "_law_sent" (scopeOf 12) L a cdv)
  generalize hA : A.deeper (envOf "_law_sent" (scopeOf 12) L a cdv) = A' at rm' ⊢
  have hh : A'.handled = none := rm'.hh
  have keep1 : Kp s.heap s₁.heap := x.keep
  have hns1 := x.ns
  have W1 := W.keeps keep1
  obtain ⟨aq, cq, hq, Fq⟩ := W1.g7
  have ht1 := ht.keeps keep1
  obtain ⟨oq, dq, pq, ctq, anq, hoq, hdq, hcq⟩ := id Fq
  -- mail = quotedata(end.join(list(table)))
  refine wpAny_execs_cons (wpAny_Assign_Name ?_)
  refine Call_ (ng W1 hq ?_)
  refine callWith_def hdq ?_
  refine args_cons ?_
  refine PySem.Call_method1 rfl rfl rfl ?_
  refine nm hns1 rfl ?_
  refine SB.join ?_
  refine Call_ (nb W1 W.f_list PyProof.Rows.Boot.«list» ?_)
  refine PyProof.Rows.callWith_type1 ?_
  refine args_cons ?_
  refine nm hns1 rfl ?_
  refine args_nil ?_
  refine call_listDict hh ht1 htS (by omega) fun D h2 tk2 l hk2 hl hlk => ?_
  refine ⟨D, l, rfl, hl, T.map (·.1), hlk, joinOk_small ?_, fun t3 k3 => ?_⟩
  · have h1 := sum_le ((T.map (·.1)).map (·.length)) (B := 60) (fun z hz => by
      obtain ⟨k, hk, rfl⟩ := List.mem_map.mp hz
      obtain ⟨p, hp, rfl⟩ := List.mem_map.mp hk
      have := (hT p hp).2
      simpa [Str.length] using this)
    have h2 : (T.map (·.1)).length * e.length ≤ 4000 * 2 := Nat.mul_le_mul (by simpa using hz) (by simpa [Str.length] using hel)
    simp only [List.length_map] at h1 h2 ⊢
    omega
  refine args_nil ?_
  have keep2 : Kp s.heap h2 := fun b o q => hk2 b o (keep1 b o q)
  refine ⟨hk2 _ _ hoq, wpAny_call ?_⟩
  have hmail : Txt.join e (T.map (·.1)) = ⟨(joinE e.cps.toList (T.map (fun p => p.1.cps.toList))).toArray⟩ := by
    refine ofArr _ _ ?_
    have := glued_rows e (T.map (·.1))
    rw [List.map_map] at this
    exact this
  rw [hmail]
  have W2 := W.keeps keep2
  refine call_quote (Fq.keeps hk2) W2 (rm'.mono (by omega)) he hkeep hz0 hz1 hz2 fun h3 tk3 tk3' hk3 => ?_
  have keep3 : Kp s.heap h3 := fun b o q => hk3 b o (keep2 b o q)
  obtain ⟨H1, tk1, rfl⟩ := x.same
  dsimp only at hns1 hk2 ⊢
  have hns3 := (hns1.keeps hk2).keeps hk3
  refine wpAny_storeName_local (env := envOf "_law_sent" (scopeOf 12) L a cdv) rfl hns3 (fun h4 hns4 hs4 => ?_) rfl
  have keep4 : Kp s.heap h4 := fun b o q => hs4.extBut b o (Nat.ne_of_lt (hL ▸ Heap.lt_size q)) (keep3 b o q)
  have W4 := W.keeps keep4
  have ht4 := ht.keeps keep4
  -- return {row: count for row, count in zip(mail.split('\r\n'), list(table.values()))}
  refine wpAny_execs_cons (wpAny_Return_some ?_)
  refine wp_DictComp (cl := []) hh (closureFor_none (by decide)) (by decide) rfl (by decide) rfl rfl (by decide) ?_
  refine Call_ (nb W4 W.f_zip PyProof.Rows.Boot.«zip» ?_)
  refine PyProof.Rows.callWith_type1 ?_
  refine args_cons ?_
  refine PySem.Call_method1 rfl rfl rfl ?_
  refine nm hns4 rfl ?_
  have hI4 : InCall s L _ { heap := h4, gens := s.gens, drawn := s.drawn, toks := tk3 + 1, os := s.os } := ⟨⟨h4, _, rfl⟩, hns4, keep4, Nat.le_of_eq hL⟩
  have hcr : (Str.ofString "\r\n") = crlf := by decide
  have hxl : (⟨(joinE [13, 10] ((T.map (fun p => p.1.cps.toList)).map (46 :: ·))).toArray⟩ : Str).length ≤ sizeLine := by
    have h3 : (1000000 : Nat) ≤ sizeLine := by decide
    simp only [Str.length, List.size_toArray]; omega
  refine SB.split1 (s₀ := s) (L := L) (hx := hxl) hI4 ?_
  refine Calls.Constant_str ?_
  rw [hcr]
  refine ⟨crlf, _, rfl, rfl, hI4.tok _, ?_, fun D1 l1 s5 hl1 x5 hD1 => ?_⟩
  · have h1 := StrLaws.occ_length_le ⟨(joinE [13, 10] ((T.map (fun p => p.1.cps.toList)).map (46 :: ·))).toArray⟩ crlf 0 (⟨(joinE [13, 10] ((T.map (fun p => p.1.cps.toList)).map (46 :: ·))).toArray⟩ : Str).length ((⟨(joinE [13, 10] ((T.map (fun p => p.1.cps.toList)).map (46 :: ·))).toArray⟩ : Str).length + 1)
    have h2 : (⟨(joinE [13, 10] ((T.map (fun p => p.1.cps.toList)).map (46 :: ·))).toArray⟩ : Str).length ≤ 300000 := by simpa [Str.length] using hz2
    have h3 : (1000000 : Nat) ≤ sizeLine := by decide
    simp only [Builtin.Str.partsBetween, List.length_map, List.length_zip, List.length_cons, List.length_append, List.length_nil]
    omega
  have keep5 := x5.keep
  have hns5 := x5.ns
  obtain ⟨H5, tk5, rfl⟩ := x5.same
  dsimp only at keep5 hns5 hD1 ⊢
  have W5 := W.keeps keep5
  have ht5 := ht.keeps keep5
  refine args_cons ?_
  refine Call_ (nb W5 W.f_list PyProof.Rows.Boot.«list» ?_)
  refine PyProof.Rows.callWith_type1 ?_
  refine args_cons ?_
  refine wp_Call_values htS ht5 rfl rfl (fun Q' q => nm hns5 rfl q) fun h6 v hk6 hv => ?_
  refine args_nil ?_
  refine call_listVals hh (ht5.keeps hk6) hv (by omega) fun D2 h7 tk7 acc hk7 hD2 hsz hacc => ?_
  refine args_nil ?_
  have hD1' : h7.IsList D1 (strValues l1).toArray := hD1.at fun o e => hk7 _ o (hk6 _ o e)
  have keep7 : Kp s.heap h7 := fun b o q => hk7 b o (hk6 b o (keep5 b o q))
  have hD1lt : D1 < h7.objs.size := by obtain ⟨o, ho, _⟩ := hD1'; exact Heap.lt_size ho
  have hD2lt : D2 < h7.objs.size := by obtain ⟨o, ho, _⟩ := hD2; exact Heap.lt_size ho
  refine call_zip_2 hD1' hD2 fun h8 g1 g2 g3 g4 g5 hs8 hk8 => ?_
  refine wpAny_pyIter_zip g1 ?_
  dsimp only at g1 g2 g3 g4 g5 hs8 hk8 ⊢
  generalize hN : h7.objs.size = N at g1 g2 g3 g4 g5 hs8 hD1lt hD2lt ⊢
  have hap : ZipApart (N + 4) (N + 2) (N + 3) N (N + 1) D1 D2 := zipApart_nat N D1 D2 hD1lt hD2lt
  have hxs : ∀ (i : Nat) (p : Str × Int), T[i]? = some p → ∃ tx, (strValues l1).toArray[i]? = some (.str (dot p.1) tx) := fun i p hp => by
    cases T with
    | nil => simp at hp
    | cons q T' =>
      have hsp := split_rows (46 :: q.1.cps.toList) ((T'.map (fun p => p.1.cps.toList)).map (46 :: ·)) ?_ ?_
      · simp only [List.map_cons] at hl1 hsp
        rw [hsp] at hl1
        have hi : (l1.map (·.1))[i]? = some (dot p.1) := by
          rw [hl1]
          have : (⟨(46 :: q.1.cps.toList).toArray⟩ : Str) :: List.map (fun l => (⟨l.toArray⟩ : Str)) (List.map (fun x => 46 :: x) (List.map (fun p => p.1.cps.toList) T')) = (q :: T').map (fun p => dot p.1) := by
            simp [dot, List.map_map, Function.comp]
          rw [this, List.getElem?_map, hp]; rfl
        rw [List.getElem?_map] at hi
        cases hli : l1[i]? with
        | none => rw [hli] at hi; cases hi
        | some y =>
          rw [hli] at hi
          have hy : y.1 = dot p.1 := by simpa using hi
          refine ⟨y.2, ?_⟩
          simp only [strValues, List.getElem?_toArray, List.getElem?_map, hli, Option.map_some, hy]
      · intro hm
        obtain ⟨tt, htt, hne⟩ := hkeep q.1.cps.toList (by simp)
        rw [htt] at hm
        simp at hm
        exact (hne 13 hm).2 rfl
      · intro r hr hm
        obtain ⟨r', hr', rfl⟩ := List.mem_map.mp hr
        obtain ⟨tt, htt, hne⟩ := hkeep r' (by simp at hr' ⊢; exact .inr hr')
        rw [htt] at hm
        simp at hm
        exact (hne 13 hm).2 rfl
  have hmin : min (strValues l1).toArray.size acc.size = T.length := by
    rw [hsz]
    cases hT0 : T.length with
    | zero => simp
    | succ k =>
      have hlt : k < T.length := by omega
      obtain ⟨tx, hx⟩ := hxs k T[k] (by simp [hlt])
      have := (Array.getElem?_eq_some_iff.mp hx).1
      omega
  refine ⟨N + 4, [N + 4, N + 2, N + 3, N, N + 1, D1, D2], [N + 4, N + 3, N, N + 1], min (strValues l1).toArray.size acc.size, _, _, _, fun i => sentT (T.take i), rfl, (WalksT.zip2 hh (N + 4) (N + 2) (N + 3) N (N + 1) D1 D2 hap (strValues l1).toArray acc).toU, ?_, ?_, ?_, ?_, ?_⟩
  · rintro i vals ⟨x, y, _, _, rfl⟩; exact ⟨x, y, rfl⟩
  · exact ⟨g1, g2, ⟨_, _, g3⟩, g4, g5, hD1'.at fun o e => hk8 _ o e, hD2.at fun o e => hk8 _ o e⟩
  · intro b hb
    exact zip_fp hD1lt hD2lt hs8 hb
  · intro C hC
    refine ⟨rfl, ?_, fun i _ => ?_⟩
    · rintro i key x s₂ m₂ hi ⟨x', y', hx', hy', hv'⟩ hn₂ hka hkb _
      obtain ⟨rfl, rfl⟩ : key = x' ∧ x = y' := by simpa using hv'
      obtain ⟨p, tp, hp, rfl⟩ := hacc i x hy'
      obtain ⟨tx, hx⟩ := hxs i p hp
      rw [hx'] at hx
      obtain rfl : key = .str (dot p.1) tx := by simpa using hx
      refine wpAny_tests_nil ⟨keeps_refl _, ?_⟩
      rw [if_pos rfl]
      refine nm hn₂ hka ⟨keeps_refl _, nm hn₂ hkb ⟨keeps_refl _, dot p.1, tx, p.2, tp, rfl, rfl, sent_take hp hn⟩⟩
    · simp [sentT]; omega
  · intro D h9 tk9 hD9 hT9 hk9
    rw [hmin] at hT9
    dsimp only at hT9
    rw [List.take_length] at hT9
    refine h D h9 tk9 ?_ ?_ hT9
    · have hLl : L < h8.objs.size := by
        obtain ⟨o, _, _, ho, _⟩ := hns5
        exact Heap.lt_size (hk8 _ _ (hk7 _ _ (hk6 _ _ ho)))
      exact hL ▸ Nat.le_trans (Nat.le_of_lt hLl) hD9
    · intro b o q
      refine hk9 b o ?_ (hk8 _ _ (keep7 _ _ q))
      exact zip_wr (hN ▸ Heap.lt_size (keep7 _ _ q))
end
end Mine
end
section -- D8
namespace Mine
open PySem PySem.W PyProof.Rows PySem.Builtin.Str
set_option maxRecDepth 100000

theorem sliceRange_up (n : Nat) : sliceRange 0 (n : Int) 1 = List.range n := by
  unfold sliceRange
  simp only [show ((1 : Int) > 0) = True from by simp, if_true]
  have : ((if (0 : Int) < n then ((n : Int) - 0 + 1 - 1) / 1 else 0).toNat) = n := by
    split <;> omega
  rw [this]
  conv => rhs; rw [← List.map_id (List.range n)]
  refine List.map_congr_left fun k _ => ?_
  simp

theorem range_pick {α : Type} (l : List α) : ∀ k, k ≤ l.length → (List.range k).filterMap (fun i => l[i]?) = l.take k
  | 0, _ => by simp
  | k + 1, h => by
    rw [List.range_succ, List.filterMap_append, range_pick l k (by omega), take_next (List.getElem?_eq_getElem (show k < l.length by omega))]
    simp [List.getElem?_eq_getElem (show k < l.length by omega)]

theorem slice_last (x : Str) (t tk : Tok) (h : 0 < x.cps.toList.length) : sliceMade x t none (some (-1, tk)) none = .str ⟨x.cps.toList.dropLast.toArray⟩ := by
  have hp : slicePicked x none (some (-1, tk)) none = List.range (x.cps.toList.length - 1) := by
    unfold slicePicked strSliceIndices
    have hl : x.length = x.cps.toList.length := by simp [Str.length]
    simp only [Option.map_none, Option.map_some, Option.getD_none, hl]
    rw [← sliceRange_up]
    simp only [show ((1 : Int) > 0) = True from by simp, if_true, show ((-1 : Int) < 0) = True from by simp]
    congr 1
    omega
  unfold sliceMade
  rw [hp, if_neg]
  · congr 2
    have e : (fun i : Nat => x.cps[i]?) = fun i : Nat => x.cps.toList[i]? := by funext i; simp
    rw [e, range_pick _ _ (by omega), List.dropLast_eq_take]
  · have hl : x.length = x.cps.toList.length := by simp [Str.length]
    simp [hl]
    simp at h
    omega

/-- a row's sign -/
def lastC (k : Str) : Nat := k.cps.toList.getLastD 0
def reSign (k : Str) (c : Nat) : Str := ⟨(k.cps.toList.dropLast ++ [c]).toArray⟩
def IsRow (k : Str) : Prop := ∃ n s, s < 3 ∧ k.cps.toList = List.replicate (n + 1) 46 ++ [120 + s]

theorem IsRow.ne {k : Str} (h : IsRow k) : 0 < k.cps.toList.length := by
  obtain ⟨n, s, _, e⟩ := h; rw [e]; simp
theorem IsRow.dotRow {k : Str} (h : IsRow k) : DotRow k.cps.toList := by
  obtain ⟨n, s, hs, e⟩ := h
  refine ⟨List.replicate n 46 ++ [120 + s], by rw [e]; rfl, fun c hc => ?_⟩
  rcases List.mem_append.mp hc with h | h
  · have := (List.mem_replicate.mp h).2; omega
  · have := List.mem_singleton.mp h; omega
theorem IsRow.last {k : Str} (h : IsRow k) : ∃ s, s < 3 ∧ lastC k = 120 + s := by
  obtain ⟨n, s, hs, e⟩ := h
  exact ⟨s, hs, by rw [lastC, e]; simp⟩
theorem last_index {k : Str} (h : 0 < k.cps.toList.length) : (seqIndex? (-1) k.length).bind (k.cps[·]?) = some (lastC k) := by
  have hl : k.length = k.cps.toList.length := by simp [Str.length]
  unfold seqIndex?
  rw [hl]
  have : (if ((-1 : Int) < 0) then (-1 : Int) + (k.cps.toList.length : Int) else -1) = ((k.cps.toList.length - 1 : Nat) : Int) := by
    rw [if_pos (by decide)]; omega
  simp only [this]
  rw [if_pos (by simp at h ⊢; omega)]
  simp only [Option.bind_some, Int.toNat_natCast]
  rw [← Array.getElem?_toList, lastC, List.getLastD_eq_getLast?, List.getLast?_eq_getElem?]
  cases e : k.cps.toList[k.cps.toList.length - 1]? with
  | none => rw [List.getElem?_eq_none_iff] at e; omega
  | some c => rfl

theorem xyz_at {o : Int} (h0 : 0 ≤ o) (h3 : o < 3) : (seqIndex? o (Str.ofString "xyz").length).bind ((Str.ofString "xyz").cps[·]?) = some (120 + o.toNat) := by
  have : o = 0 ∨ o = 1 ∨ o = 2 := by omega
  rcases this with rfl | rfl | rfl <;> decide

section
variable {prog : Program} {w : World} {A : Around} {E : Value → Shared → Prop} {s : Shared} {mg mb : Str → Option Value}

/-- row[-1] -/
theorem wp_last {env : Env} {x : Str} {px p1 p2 pos : Pos} {kd : Nat} {m : Str → Option Value} {k : Str} {t : Tok} {Q : Value → Shared → Prop} (hn : s.heap.Ns env.locals m) (hv : m x = some (.str k t)) (hk0 : 0 < k.cps.toList.length)
    (h : ∀ tk tk', Q (.str ⟨#[lastC k]⟩ tk') { s with toks := tk })
    (hk : env.scope.kind = .function := by rfl) (hl : env.kindOf x = some .local := by rfl) (hd : (x == ("__debug__" : Str)) = false := by decide) :
    wpAny (model prog w) A (eval (.Subscript (.Name x px) (.UnaryOp .USub (.Constant (.int 1) kd p1) p2) pos) env) Q E s := by
  refine PySem.Subscript_UnaryOp ?_
  refine nm hn hv ?_ hk hl hd
  refine wpAny_UnaryOp ?_
  refine wpAny_Constant_int ?_
  refine PyProof.Rows.neg_int ?_
  refine ⟨"str", "str.__getitem__", F.slot_str_getitem.lookup, typeIs_str _ _ _, ?_⟩
  exact P.getItem_str (by decide) (last_index hk0) (h _ _)

/-- row[:-1] -/
theorem wp_body {env : Env} {x : Str} {px p1 p2 p3 pos : Pos} {kd : Nat} {m : Str → Option Value} {k : Str} {t : Tok} {Q : Value → Shared → Prop} (hn : s.heap.Ns env.locals m) (hv : m x = some (.str k t)) (hk0 : 0 < k.cps.toList.length) (hz : k.cps.toList.length ≤ 100)
    (h : ∀ h' tk tk', Kp s.heap h' → Q (.str ⟨k.cps.toList.dropLast.toArray⟩ tk') { s with heap := h', toks := tk })
    (hk : env.scope.kind = .function := by rfl) (hl : env.kindOf x = some .local := by rfl) (hd : (x == ("__debug__" : Str)) = false := by decide) :
    wpAny (model prog w) A (eval (.Subscript (.Name x px) (.Slice none (some (.UnaryOp .USub (.Constant (.int 1) kd p1) p2)) none p3) pos) env) Q E s := by
  refine wpAny_Subscript_str_slice ?_
  refine nm hn hv ?_ hk hl hd
  rw [evalPart_none]
  refine wpAny_pure ?_
  rw [evalPart_some]
  refine wpAny_UnaryOp ?_
  refine wpAny_Constant_int ?_
  refine PyProof.Rows.neg_int ?_
  refine ⟨k, t, none, some (-1, _), rfl, rfl, rfl, ?_⟩
  rw [slice_last k t _ hk0]
  refine ⟨?_, h _ _ _ fun b o e => Heap.get?_push_of_some _ e⟩
  have : (100 : Nat) ≤ sizeLine := by decide
  show (k.cps.toList.dropLast.toArray).size ≤ _
  simp only [List.size_toArray, List.length_dropLast]
  omega

/-- 'xyz'[own], own in a cell -/
theorem wp_xyz {env : Env} {x : Str} {px p1 pos : Pos} {kd : Nat} {c : Addr} {o : Int} {t : Tok} {Q : Value → Shared → Prop} (hc : env.cells.lookup x = some c) (hcell : s.heap.IsCell c (some (.int o t))) (h0 : 0 ≤ o) (h3 : o < 3)
    (h : ∀ tk tk', Q (.str ⟨#[120 + o.toNat]⟩ tk') { s with toks := tk })
    (hk : env.scope.kind = .function := by rfl) (hl : env.kindOf x = some .cell := by rfl) (hd : (x == ("__debug__" : Str)) = false := by decide) :
    wpAny (model prog w) A (eval (.Subscript (.Constant (.str "xyz") kd p1) (.Name x px) pos) env) Q E s := by
  refine Subscript_ ?_
  refine Calls.Constant_str ?_
  refine wpAny_Name (wpAny_loadName_cell hk hl hc hcell ?_) hd
  refine tail_any (T := "str") (typeIs_str _ _ _) F.slot_str_getitem.lookup ?_ (by with_unfolding_all rfl)
  refine P.getItem_str ?_ (xyz_at h0 h3) (h _ _)
  simp; omega
end
end Mine
end
section -- D9
namespace Mine
open PySem PySem.W PyProof.Rows
set_option maxRecDepth 100000

theorem idx_of_nodup {T : Tb} (hn : (T.map (·.1)).Nodup) {i j : Nat} {p q : Str × Int} (hi : T[i]? = some p) (hj : T[j]? = some q) (e : p.1 = q.1) : i = j := by
  obtain ⟨hil, hip⟩ := List.getElem?_eq_some_iff.mp hi
  obtain ⟨hjl, hjq⟩ := List.getElem?_eq_some_iff.mp hj
  rcases Nat.lt_trichotomy i j with h | h | h
  · have := List.pairwise_iff_getElem.mp hn i j (by simpa using hil) (by simpa using hjl) h
    simp only [List.getElem_map, hip, hjq] at this
    exact absurd e this
  · exact h
  · have := List.pairwise_iff_getElem.mp hn j i (by simpa using hjl) (by simpa using hil) h
    simp only [List.getElem_map, hip, hjq] at this
    exact absurd e.symm this

/-- a comprehension's function keeps names apart -/
def Apart (T : Tb) (g : Str × Int → Option (Str × Int)) : Prop := ∀ p ∈ T, ∀ q ∈ T, ∀ p' q', g p = some p' → g q = some q' → p'.1 = q'.1 → p.1 = q.1

theorem comp_take {T : Tb} {g : Str × Int → Option (Str × Int)} {i : Nat} {p : Str × Int} (hn : (T.map (·.1)).Nodup) (hg : Apart T g) (h : T[i]? = some p) :
    (T.take (i + 1)).filterMap g = match g p with | some q => put ((T.take i).filterMap g) q.1 q.2 | none => (T.take i).filterMap g := by
  rw [take_next h, List.filterMap_append]
  cases hq : g p with
  | none => simp [hq]
  | some q =>
    simp only [List.filterMap_cons, hq, List.filterMap_nil]
    rw [put_fresh]
    intro hm
    obtain ⟨r, hr, e⟩ := List.mem_map.mp hm
    obtain ⟨p', hp', hgp⟩ := List.mem_filterMap.mp hr
    obtain ⟨j, hj, hpj⟩ := List.mem_take_iff_getElem.mp hp'
    have hj' : T[j]? = some p' := by rw [List.getElem?_eq_getElem (by omega), hpj]
    have hpm : p ∈ T := List.mem_of_getElem? h
    have hpm' : p' ∈ T := List.mem_of_getElem? hj'
    have := hg p' hpm' p hpm r q hgp hq e
    have := idx_of_nodup hn hj' h this
    omega

section
variable {prog : Program} {w : World} {A : Around} {E : Value → Shared → Prop} {s : Shared} {mg mb : Str → Option Value}

/-- one turn of a comprehension over a table's items -/
def ItemTurn (prog : Program) (w : World) (A : Around) (env : Env) (a b : Str) (ifs : List PySem.Expr) (kx vx : PySem.Expr) (C : Addr) (h₀ : Heap) (T : Tb) (g : Str × Int → Option (Str × Int)) : Prop :=
  ∀ (p : Str × Int) (t t' : Tok) (s₂ : Shared) m₂, p ∈ T → s₂.heap.Ns C m₂ → m₂ a = some (.str p.1 t') → m₂ b = some (.int p.2 t) → Kp h₀ s₂.heap →
    wpAny (model prog w) A (forIn ifs true fun c r => if r = true then do let ok ← isTrue c env (eval c env); pure (ForInStep.yield ok) else pure (ForInStep.yield r))
      (fun ok s₃ => Keeps s₂ s₃ ∧ if ok = true then wpAny (model prog w) A (eval kx env) (fun kv s₄ => Keeps s₃ s₄ ∧ wpAny (model prog w) A (eval vx env) (fun vv s₅ => Keeps s₄ s₅ ∧
          ∃ q t t', g p = some q ∧ kv = .str q.1 t ∧ vv = .int q.2 t') No s₄) No s₃ else g p = none) No s₂

theorem wp_items_src {env : Env} {o : PySem.Expr} {apos cpos : Pos} {a b : Str} {ifs : List PySem.Expr} {kx vx : PySem.Expr} {scope : Scope} {cl : List (Str × Addr)} {d : Addr} {T : Tb} {g : Str × Int → Option (Str × Int)}
    {F : Value → Shared → Prop} (hh : A.handled = none) (hdS : (d == sysModules) = false) (hd : Tab prog w s.heap d T) (hz : T.length ≤ 100000) (hg : Apart T g)
    (hbase : attributeBase o "items" env (eval o env) = eval o env) (hline : (apos.endLine == cpos.line) = true)
    (ho : ∀ Q', Q' (.ref d) s → wpAny (model prog w) A (eval o env) Q' No s)
    (turn : ∀ C, ItemTurn prog w A (compEnvC scope cl C env) a b ifs kx vx C s.heap T g)
    (hF : ∀ I s₂, s₂.heap.get? I ≠ none → s.heap.get? I = none → s.heap.objs.size ≤ s₂.heap.objs.size → Kp s.heap s₂.heap → (∃ h tk, s₂ = { s with heap := h, toks := tk }) →
      (∃ fp wr n Pt St Mid T', WalksU prog w A I fp wr n Pt St Mid ∧ wr = [I] ∧ (∀ i vals, Pt i vals → ∃ key x, vals = #[key, x]) ∧ St 0 s₂.heap ∧ (∀ b ∈ fp, b < s₂.heap.objs.size) ∧
        (∀ C, s₂.heap.objs.size ≤ C → Turn prog w A (compEnvC scope cl C env) a b ifs kx vx C s₂.heap wr n Pt T') ∧ T' n = T.filterMap g) → F (.ref I) s₂) :
    wpAny (model prog w) A (eval (.Call (.Attribute o "items" apos) [] [] cpos) env) (fun xv s₁ => wpAny (model prog w) A (pyIter xv) F No s₁) No s := by
  have hn := hd.nodup
  obtain ⟨kvs, hdo, hi⟩ := hd
  obtain ⟨ep, hat⟩ := hdo.dictAt
  refine wpAny_Call_items (knd := strKind prog w) hdS hdo hbase hline ho ?_
  refine wpAny_pyIter_items (knd := strKind prog w) (d := d) (kvs := kvs) (ep := ep) ⟨_, Heap.get?_push_size _ rfl, rfl, rfl⟩ (hat.push _) ?_
  have hsz : (s.heap.push { cls := .type "dict_items", data := .fields #[.ref d] }).objs.size = s.heap.objs.size + 1 := Heap.size_push ..
  have hdlt := hat.lt_size
  have hIne : d ≠ (s.heap.push { cls := .type "dict_items", data := .fields #[.ref d] }).objs.size := by rw [hsz]; exact Nat.ne_of_lt (Nat.lt_succ_of_lt hdlt)
  have hfresh : s.heap.get? (s.heap.push { cls := .type "dict_items", data := .fields #[.ref d] }).objs.size = none := fresh_none (by rw [hsz]; exact Nat.le_succ _)
  have hk2 : Kp s.heap ((s.heap.push { cls := .type "dict_items", data := .fields #[.ref d] }).push { cls := .type "dict_itemiterator", data := .fields #[.none, .bool false, .ref d, .int 0 0, .int kvs.length 0, .int ep 0, .none, .none] }) :=
    fun b o e => Heap.get?_push_of_some _ (Heap.get?_push_of_some _ e)
  refine hF _ _ ?_ hfresh ?_ hk2 ⟨_, _, rfl⟩ ?_
  · show ((s.heap.push _).push _).get? (s.heap.push _).objs.size ≠ none
    rw [Heap.get?_push_size _ rfl]; simp
  · show _ ≤ ((s.heap.push _).push _).objs.size
    rw [Heap.size_push, hsz]; omega
  refine ⟨_, _, _, _, _, _, fun i => (T.take i).filterMap g, walksItems (prog := prog) (w := w) hh (s.heap.push { cls := .type "dict_items", data := .fields #[.ref d] }).objs.size d hIne kvs ep, rfl, ?_, ?_, ?_, ?_, ?_⟩
  · rintro i vals ⟨k, key, x, _, _, rfl⟩; exact ⟨key, x, rfl⟩
  · exact ⟨⟨.none, .none, Heap.get?_push_size _ rfl⟩, (hat.push _).push _⟩
  · intro b hb
    have hsz2 : ((s.heap.push { cls := .type "dict_items", data := .fields #[.ref d] }).push { cls := .type "dict_itemiterator", data := .fields #[.none, .bool false, .ref d, .int 0 0, .int kvs.length 0, .int ep 0, .none, .none] }).objs.size = s.heap.objs.size + 1 + 1 := by rw [Heap.size_push, hsz]
    show b < ((s.heap.push _).push _).objs.size
    rw [hsz2]
    simp only [List.mem_cons, List.not_mem_nil, or_false] at hb
    rcases hb with rfl | rfl
    · rw [hsz]; exact Nat.lt_succ_self _
    · exact Nat.lt_succ_of_lt (Nat.lt_succ_of_lt hdlt)
  · intro C hC
    refine ⟨rfl, ?_, fun i _ => ?_⟩
    · rintro i key x s₂ m₂ hlt ⟨k, key', x', hx, hkey, e⟩ hn₂ hka hkb hold
      obtain ⟨rfl, rfl⟩ : key = key' ∧ x = x' := by simpa using e
      obtain ⟨c, t, rfl, hT⟩ := hi.at hx
      obtain ⟨t', rfl⟩ := Value.isStrOf_shape hkey
      have hkp : Kp s.heap s₂.heap := fun b o q => hold b o (fun hm => by
        simp only [List.mem_singleton] at hm
        rw [hm, hfresh] at q; cases q) (hk2 b o q)
      refine wpAny_mono (turn C (k, c) t t' s₂ m₂ (List.mem_of_getElem? hT) hn₂ hka hkb hkp) (fun ok s₃ h₃ => ?_) fun _ _ x => x
      refine ⟨h₃.1, ?_⟩
      have h3 := h₃.2
      have ct := comp_take hn hg hT
      cases ok with
      | false =>
        simp only [Bool.false_eq_true, if_false] at h3 ⊢
        rw [ct, h3]
      | true =>
        simp only [if_true] at h3 ⊢
        refine wpAny_mono h3 (fun kv s₄ h₄ => ⟨h₄.1, wpAny_mono h₄.2 (fun vv s₅ h₅ => ⟨h₅.1, ?_⟩) fun _ _ x => x⟩) fun _ _ x => x
        obtain ⟨q, t, t', hgq, rfl, rfl⟩ := h₅.2
        refine ⟨q.1, t, q.2, t', rfl, rfl, ?_⟩
        rw [ct, hgq]
    · have h1 := List.length_filterMap_le g (T.take i)
      have h2 : (T.take i).length ≤ T.length := by simp; omega
      omega
  · show (T.take kvs.length).filterMap g = _
    rw [hi.length, List.take_length]

theorem wp_DictComp_items {env : Env} {o : PySem.Expr} {apos cpos : Pos} {kx vx : PySem.Expr} {a b : Str} {pa pb tp : Pos} {kk : Nat} {ifs : List PySem.Expr} {scope : Scope} {cl : List (Str × Addr)} {pos : Pos} {d : Addr} {T : Tb} {g : Str × Int → Option (Str × Int)}
    {Q : Value → Shared → Prop} (hh : A.handled = none) (hdS : (d == sysModules) = false) (hd : Tab prog w s.heap d T) (hz : T.length ≤ 100000) (hg : Apart T g)
    (hclos : closureFor scope env = pure cl) (hcell : ∀ y ∈ scope.names, y.2 ≠ .cell) (hkind : scope.kind = .function)
    (hnames : ∀ z ∈ scope.names, z.2 = .local → scope.names.lookup z.1 = some .local) (hxa : scope.names.lookup a = some .local) (hxb : scope.names.lookup b = some .local) (hab : a ≠ b)
    (hbase : attributeBase o "items" env (eval o env) = eval o env) (hline : (apos.endLine == cpos.line) = true)
    (ho : ∀ Q', Q' (.ref d) s → wpAny (model prog w) A (eval o env) Q' No s)
    (turn : ∀ C, ItemTurn prog w A (compEnvC scope cl C env) a b ifs kx vx C s.heap T g)
    (hQ : ∀ D h' tk, s.heap.objs.size ≤ D → Kp s.heap h' → Tab prog w h' D (T.filterMap g) → Q (.ref D) { s with heap := h', toks := tk })
    (hs : ∀ x, foldedSetIterable (.Call (.Attribute o "items" apos) [] [] cpos) env x = pure x := by intro _; rfl) :
    wpAny (model prog w) A (eval (.DictComp kx vx [⟨.Tuple [.Name a pa, .Name b pb] kk tp, .Call (.Attribute o "items" apos) [] [] cpos, ifs, 0⟩] scope pos) env) Q No s := by
  refine wp_DictComp hh hclos hcell hkind hnames hxa hxb hab ?_ hs
  refine wp_items_src hh hdS hd hz hg hbase hline ho turn fun I s₂ hI hI0 hsz2 hk2 hs2 hW => ?_
  obtain ⟨fp, wr, n, Pt, St, Mid, T', W, rfl, h1, h2, h3, h4, h5⟩ := hW
  obtain ⟨H2, tk2, rfl⟩ := hs2
  refine ⟨I, fp, _, n, Pt, St, Mid, T', rfl, W, h1, h2, h3, h4, fun D h' tk hD hT hk => ?_⟩
  rw [h5] at hT
  refine hQ D h' tk ?_ ?_ hT
  · exact Nat.le_trans hsz2 hD
  · intro b o q
    refine hk b o (fun hm => ?_) (hk2 b o q)
    simp only [List.mem_singleton] at hm
    rw [hm, hI0] at q; cases q

theorem wp_Assign_DictComp_items {env : Env} {o : PySem.Expr} {apos cpos : Pos} {kx vx : PySem.Expr} {a b y : Str} {pa pb tp py : Pos} {kk : Nat} {ifs : List PySem.Expr} {scope : Scope} {cl : List (Str × Addr)} {pos spos : Pos} {d : Addr} {T : Tb} {g : Str × Int → Option (Str × Int)}
    {m : Str → Option Value} {Q : Flow → Shared → Prop} (hh : A.handled = none) (hdS : (d == sysModules) = false) (hd : Tab prog w s.heap d T) (hz : T.length ≤ 100000) (hg : Apart T g)
    (hsw : swapsWith (.DictComp kx vx [⟨.Tuple [.Name a pa, .Name b pb] kk tp, .Call (.Attribute o "items" apos) [] [] cpos, ifs, 0⟩] scope pos) (some (.Name y py)) spos.line env = pure true)
    (hclos : closureFor scope env = pure cl) (hcell : ∀ y ∈ scope.names, y.2 ≠ .cell) (hkind : scope.kind = .function)
    (hnames : ∀ z ∈ scope.names, z.2 = .local → scope.names.lookup z.1 = some .local) (hxa : scope.names.lookup a = some .local) (hxb : scope.names.lookup b = some .local) (hab : a ≠ b)
    (hy : env.kindOf y = some .local) (hp : (env.scope.kind == .class || (env.scope.kind == .module && env.locals != env.globals)) = false)
    (hbase : attributeBase o "items" env (eval o env) = eval o env) (hline : (apos.endLine == cpos.line) = true)
    (ho : ∀ Q', Q' (.ref d) s → wpAny (model prog w) A (eval o env) Q' No s) (hn : s.heap.Ns env.locals m)
    (turn : ∀ C, ItemTurn prog w A (compEnvC scope cl C env) a b ifs kx vx C s.heap T g)
    (hQ : ∀ D h' tk, s.heap.objs.size ≤ D → (∀ c o, c ≠ env.locals → s.heap.get? c = some o → h'.get? c = some o) → Tab prog w h' D (T.filterMap g) → h'.Ns env.locals (fun z => if z = y then some (.ref D) else m z) → Q .next { s with heap := h', toks := tk })
    (hs : ∀ x, foldedSetIterable (.Call (.Attribute o "items" apos) [] [] cpos) env x = pure x := by intro _; rfl) :
    wpAny (model prog w) A (exec (.Assign [.Name y py] (.DictComp kx vx [⟨.Tuple [.Name a pa, .Name b pb] kk tp, .Call (.Attribute o "items" apos) [] [] cpos, ifs, 0⟩] scope pos) spos) env) Q No s := by
  refine wp_Assign_DictComp hh hsw hclos hcell hkind hnames hxa hxb hab hy hp ?_ hs
  refine wp_items_src hh hdS hd hz hg hbase hline ho turn fun I s₂ hI hI0 hsz2 hk2 hs2 hW => ?_
  obtain ⟨fp, wr, n, Pt, St, Mid, T', W, rfl, h1, h2, h3, h4, h5⟩ := hW
  obtain ⟨H2, tk2, rfl⟩ := hs2
  have hLI : env.locals ∉ [I] := by
    simp only [List.mem_singleton]
    intro q
    obtain ⟨ol, _, _, hol, _⟩ := hn
    rw [q, hI0] at hol; cases hol
  refine ⟨I, fp, _, n, Pt, St, Mid, T', m, rfl, W, h1, h2, h3, hLI, hn.keeps hk2, h4, fun D h' tk hD hT hns hk => ?_⟩
  rw [h5] at hT
  refine hQ D h' tk ?_ ?_ hT hns
  · exact Nat.le_trans hsz2 hD
  · intro c o hc q
    refine hk c o hc (fun hm => ?_) (hk2 c o q)
    simp only [List.mem_singleton] at hm
    rw [hm, hI0] at q; cases q
end
end Mine
end
section -- E0
namespace Mine
open PySem PySem.W PyProof.Rows
set_option maxRecDepth 100000

section
variable {prog : Program} {w : World} {A : Around} {E : Value → Shared → Prop} {s : Shared} {mg mb : Str → Option Value}

theorem wp_enterC {R : Result → Shared → Prop} {a : Addr} {name : Str} {i : Nat} {cdv : Value} {vals : List Value} {binds : List (Str × Value)} (F : FnAt s.heap a name i cdv) (W : Wd mg mb s.heap) (hroom : A.depth < recursionLimit)
    (hbind : ∀ doc pm ct an, bindArgs (fnOf name name (argsOf i) (bodyOf i) (scopeOf i) .none .none doc pm an cdv ct) ⟨vals, []⟩ = pure binds)
    (hkind : (binds.all fun x => decide ((scopeOf i).names.lookup x.1 = some .local)) = true)
    (h : ∀ s₁, InCallC s s.heap.objs.size (bindL (fun x => (scopeOf i).names.lookup x) binds fun _ => none) (cellsFrom (s.heap.objs.size + 1) (scopeOf i).names []) (bindC (fun x => (scopeOf i).names.lookup x) binds fun _ => none) s₁ →
      wpAny (model prog w) (A.deeper (envOfC name (scopeOf i) s.heap.objs.size a cdv)) (execs (bodyOf i) (envOfC name (scopeOf i) s.heap.objs.size a cdv)) (fun f s' => R (.ok (.ret (match f with | .ret v => v | _ => .none))) s') No s₁)
    (hco : (scopeOf i).isCoroutine = false := by rfl) (hgen : (scopeOf i).isGenerator = false := by rfl) (hk : (scopeOf i).kind = .function := by rfl) :
    codeAny (model prog w) A (.call (.ref a) ⟨vals, []⟩) R s := by
  obtain ⟨o, doc, pm, ct, an, ho, hd, hc⟩ := F
  exact codeAny_call_cells (fd := fnOf name name (argsOf i) (bodyOf i) (scopeOf i) .none .none doc pm an cdv ct) hroom ho hd W.lim hc rfl (hbind doc pm ct an) rfl (fun x hx => .inl (locs hkind x hx)) (fun s₁ x => wp_no (h s₁ x)) hco hgen hk

/-- a frame's state: its names, its cells, the tables it holds, other objects that stand -/
structure DSt (prog : Program) (w : World) (s : Shared) (L : Addr) (cs : List (Str × Addr)) (m cm : Str → Option Value) (tabs : List (Addr × Tb)) (ob : List (Addr × Obj)) (s' : Shared) : Prop where
  ic : InCallC s L m cs cm s'
  tabs : ∀ p ∈ tabs, Tab prog w s'.heap p.1 p.2 ∧ p.1 ≠ L ∧ (∀ n c, cs.lookup n = some c → p.1 ≠ c) ∧ (p.1 == sysModules) = false
  ob : ∀ p ∈ ob, s'.heap.get? p.1 = some p.2 ∧ p.1 ≠ L ∧ (∀ n c, cs.lookup n = some c → p.1 ≠ c)

variable {L : Addr} {cs : List (Str × Addr)} {m cm : Str → Option Value} {tabs : List (Addr × Tb)} {ob : List (Addr × Obj)} {s' : Shared}

theorem DSt.grow (x : DSt prog w s L cs m cm tabs ob s') {h' : Heap} {tk : Nat} (hk : Kp s'.heap h') : DSt prog w s L cs m cm tabs ob { s' with heap := h', toks := tk } := by
  obtain ⟨⟨⟨⟨H, tk0, rfl⟩, ns, keep, fr⟩, cell, ap, ab⟩, tb, ob⟩ := x
  exact ⟨⟨⟨⟨h', tk, rfl⟩, ns.keeps hk, fun b o e => hk _ _ (keep b o e), fr⟩, fun n c hc => (cell n c hc).keeps hk, ap, ab⟩, fun p hp => ⟨(tb p hp).1.keeps hk, (tb p hp).2⟩, fun p hp => ⟨hk _ _ (ob p hp).1, (ob p hp).2⟩⟩
theorem DSt.toks (x : DSt prog w s L cs m cm tabs ob s') (tk : Nat) : DSt prog w s L cs m cm tabs ob { s' with toks := tk } := x.grow (h' := s'.heap) fun _ _ e => e

/-- one other object turns -/
theorem DSt.other (x : DSt prog w s L cs m cm tabs ob s') {I : Addr} {h' : Heap} {tk : Nat} (hk : ∀ b o, b ≠ I → s'.heap.get? b = some o → h'.get? b = some o) (hI0 : s.heap.get? I = none) (hIL : I ≠ L) (hIc : ∀ n c, cs.lookup n = some c → I ≠ c)
    (hIt : ∀ p ∈ tabs, p.1 ≠ I) (hIo : ∀ p ∈ ob, p.1 ≠ I) : DSt prog w s L cs m cm tabs ob { s' with heap := h', toks := tk } := by
  obtain ⟨⟨⟨⟨H, tk0, rfl⟩, ns, keep, fr⟩, cell, ap, ab⟩, tb, ob⟩ := x
  refine ⟨⟨⟨⟨h', tk, rfl⟩, ns.at' fun o e => hk _ o (Ne.symm hIL) e, fun b o e => hk _ _ (fun q => ?_) (keep b o e), fr⟩, fun n c hc => ?_, ap, ab⟩, fun p hp => ⟨(tb p hp).1.keep fun o e => hk _ o (hIt p hp) e, (tb p hp).2⟩, fun p hp => ⟨hk _ _ (hIo p hp) (ob p hp).1, (ob p hp).2⟩⟩
  · rw [q, hI0] at e; cases e
  · obtain ⟨o, ho, hd⟩ := cell n c hc
    exact ⟨o, hk c o (Ne.symm (hIc n c hc)) ho, hd⟩

theorem DSt.lt (x : DSt prog w s L cs m cm tabs ob s') : L < s'.heap.objs.size := x.ic.toInCall.ns.lt
theorem DSt.cellLt (x : DSt prog w s L cs m cm tabs ob s') {n : Str} {c : Addr} (hc : cs.lookup n = some c) : c < s'.heap.objs.size := (x.ic.cell n c hc).lt
theorem DSt.tabLt (x : DSt prog w s L cs m cm tabs ob s') {p : Addr × Tb} (hp : p ∈ tabs) : p.1 < s'.heap.objs.size := (x.tabs p hp).1.lt
theorem DSt.keep (x : DSt prog w s L cs m cm tabs ob s') : Kp s.heap s'.heap := x.ic.toInCall.keep
theorem DSt.ns (x : DSt prog w s L cs m cm tabs ob s') : s'.heap.Ns L m := x.ic.toInCall.ns

theorem DSt.store {env : Env} {n : Str} {v : Value} {Q : Unit → Shared → Prop} (x : DSt prog w s env.locals env.cells m cm tabs ob s') (hk : env.scope.kind = .function) (hl : env.kindOf n = some .local)
    (h : ∀ s'', DSt prog w s env.locals env.cells (fun y => if y = n then some v else m y) cm tabs ob s'' → Q () s'') : wpAny (model prog w) A (storeName env n v) Q E s' := by
  obtain ⟨⟨⟨⟨H, tk0, rfl⟩, ns, keep, fr⟩, cell, ap, ab⟩, tb, ob⟩ := x
  refine wpAny_storeName_local hl ns (fun h' hn' hs' => h _ ⟨⟨⟨⟨h', _, rfl⟩, hn', fun b o e => ?_, fr⟩, fun k c hc => ?_, ap, ab⟩, fun p hp => ⟨?_, (tb p hp).2⟩, fun p hp => ⟨?_, (ob p hp).2⟩⟩) (by rw [hk]; rfl)
  · exact hs'.extBut b o (Nat.ne_of_lt (Nat.lt_of_lt_of_le (Heap.lt_size e) fr)) (keep b o e)
  · exact (cell k c hc).sameBut hs' (Nat.ne_of_gt (ab k c (mem_of_lookup hc)))
  · exact (tb p hp).1.keep fun o e => hs'.extBut _ o (tb p hp).2.1 e
  · exact hs'.extBut _ _ (ob p hp).2.1 (ob p hp).1

theorem DSt.storeC {env : Env} {n : Str} {c : Addr} {v : Value} {Q : Unit → Shared → Prop} (x : DSt prog w s env.locals env.cells m cm tabs ob s') (hk : env.scope.kind = .function) (hl : env.kindOf n = some .cell)
    (hc : env.cells.lookup n = some c)
    (h : ∀ s'', DSt prog w s env.locals env.cells m (fun y => if y = n then some v else cm y) tabs ob s'' → Q () s'') : wpAny (model prog w) A (storeName env n v) Q E s' := by
  obtain ⟨⟨⟨⟨H, tk0, rfl⟩, ns, keep, fr⟩, cell, ap, ab⟩, tb, ob⟩ := x
  have hLc := ab n c (mem_of_lookup hc)
  refine wpAny_storeName_cell hk hl hc (cell n c hc) fun h' hc' hs' => h _ ⟨⟨⟨⟨h', _, rfl⟩, ns.sameBut hs' (Nat.ne_of_lt hLc), fun b o e => ?_, fr⟩, fun k c' hk' => ?_, ap, ab⟩, fun p hp => ⟨?_, (tb p hp).2⟩, fun p hp => ⟨?_, (ob p hp).2⟩⟩
  · exact hs'.extBut b o (Nat.ne_of_lt (Nat.lt_trans (Nat.lt_of_lt_of_le (Heap.lt_size e) fr) hLc)) (keep b o e)
  · by_cases hkn : k = n
    · subst hkn
      rw [hc] at hk'; cases hk'
      simpa using hc'
    · rw [if_neg hkn]
      exact (cell k c' hk').sameBut hs' fun e => hkn (name_of_addr ap (mem_of_lookup hk') (e ▸ mem_of_lookup hc))
  · exact (tb p hp).1.keep fun o e => hs'.extBut _ o ((tb p hp).2.2.1 n c hc) e
  · exact hs'.extBut _ _ ((ob p hp).2.2 n c hc) (ob p hp).1

/-- a new table -/
theorem DSt.add (W : Wd mg mb s.heap) (x : DSt prog w s L cs m cm tabs ob s') {D : Addr} {T : Tb} {h' : Heap} {tk : Nat} (hD : s'.heap.objs.size ≤ D) (hT : Tab prog w h' D T) (hk : Kp s'.heap h') :
    DSt prog w s L cs m cm ((D, T) :: tabs) ob { s' with heap := h', toks := tk } := by
  have y := x.grow (h' := h') (tk := tk) hk
  refine ⟨y.ic, fun p hp => ?_, y.ob⟩
  rcases List.mem_cons.mp hp with rfl | hp
  · exact ⟨hT, Nat.ne_of_gt (Nat.lt_of_lt_of_le x.lt hD), fun n c hc => Nat.ne_of_gt (Nat.lt_of_lt_of_le (x.cellLt hc) hD), notSys (W.keeps x.keep) hD⟩
  · exact y.tabs p hp

/-- a new table, stored under a name -/
theorem DSt.addStored (W : Wd mg mb s.heap) (x : DSt prog w s L cs m cm tabs ob s') {D : Addr} {T : Tb} {h' : Heap} {tk : Nat} {n : Str} (hD : s'.heap.objs.size ≤ D) (hT : Tab prog w h' D T)
    (hk : ∀ c o, c ≠ L → s'.heap.get? c = some o → h'.get? c = some o) (hn : h'.Ns L (fun y => if y = n then some (.ref D) else m y)) :
    DSt prog w s L cs (fun y => if y = n then some (.ref D) else m y) cm ((D, T) :: tabs) ob { s' with heap := h', toks := tk } := by
  have W' := W.keeps x.keep
  have hlt := x.lt
  have hcl := fun {n c} (hc : cs.lookup n = some c) => x.cellLt hc
  obtain ⟨⟨⟨⟨H, tk0, rfl⟩, ns, keep, fr⟩, cell, ap, ab⟩, tb, ob⟩ := x
  refine ⟨⟨⟨⟨h', tk, rfl⟩, hn, fun b o e => ?_, fr⟩, fun k c hc => ?_, ap, ab⟩, fun p hp => ?_, fun p hp => ⟨hk _ _ (ob p hp).2.1 (ob p hp).1, (ob p hp).2⟩⟩
  · exact hk b o (Nat.ne_of_lt (Nat.lt_of_lt_of_le (Heap.lt_size e) fr)) (keep b o e)
  · obtain ⟨o, ho, hd⟩ := cell k c hc
    exact ⟨o, hk c o (Nat.ne_of_gt (ab k c (mem_of_lookup hc))) ho, hd⟩
  · rcases List.mem_cons.mp hp with rfl | hp
    · exact ⟨hT, Nat.ne_of_gt (Nat.lt_of_lt_of_le hlt hD), fun n c hc => Nat.ne_of_gt (Nat.lt_of_lt_of_le (hcl hc) hD), notSys W' hD⟩
    · exact ⟨(tb p hp).1.keep fun o e => hk _ o (tb p hp).2.1 e, (tb p hp).2⟩
/-- an object is watched -/
theorem DSt.watch (x : DSt prog w s L cs m cm tabs ob s') {I : Addr} {o : Obj} (hI : s'.heap.get? I = some o) (hIL : I ≠ L) (hIc : ∀ n c, cs.lookup n = some c → I ≠ c) : DSt prog w s L cs m cm tabs ((I, o) :: ob) s' :=
  ⟨x.ic, x.tabs, fun p hp => by
    rcases List.mem_cons.mp hp with rfl | hp
    · exact ⟨hI, hIL, hIc⟩
    · exact x.ob p hp⟩
theorem DSt.unwatch {p : Addr × Obj} (x : DSt prog w s L cs m cm tabs (p :: ob) s') : DSt prog w s L cs m cm tabs ob s' := ⟨x.ic, x.tabs, fun q hq => x.ob q (.tail _ hq)⟩

/-- a for over any source, by what holds between its turns -/
theorem for_walk {R : Result → Shared → Prop} {target : PySem.Expr} {body : List Stmt} {env : Env} {I : Addr} {fp wr : List Addr} {n : Nat} {P : Nat → Value → Prop} {St : Nat → Heap → Prop} (W : Walks prog w A I fp wr n P St)
    (hgo : ∀ v, letOwnedTupleGo target (.ref I) v = pure ()) (Inv : Nat → Shared → Prop) (hst : St 0 s.heap) (h0 : Inv 0 s)
    (hnext : ∀ i s' h' tk, Inv i s' → (∀ b o, b ∉ wr → s'.heap.get? b = some o → h'.get? b = some o) → Inv i { s' with heap := h', toks := tk })
    (step : ∀ i v s₁, i < n → P i v → Inv i s₁ → St (i + 1) s₁.heap → wpAny (model prog w) A (assign target env v) (fun _ s₂ => wpAny (model prog w) A (execs body env) (fun f s₃ => f = .next ∧ Inv (i + 1) s₃ ∧
      ∀ b ∈ fp, ∀ o, s₁.heap.get? b = some o → s₃.heap.get? b = some o) No s₂) No s₁)
    (hR : ∀ s', Inv n s' → R (.ok .next) s') : codeAny (model prog w) A (.forLoop target (.ref I) body [] env) R s := by
  refine codeAny_forLoop_any (fun k s' => ∃ i, St i s'.heap ∧ Inv i s' ∧ i ≤ n ∧ k = n + 1 - i) ?_ (n + 1) ⟨0, hst, h0, Nat.zero_le _, rfl⟩
  rintro k s' ⟨i, hst', hI, hi, rfl⟩
  refine wp_no ?_
  by_cases hlt : i < n
  · refine W.item i _ _ _ hlt hst' fun v h₁ tk₁ hPv hst₁ hk₁ => ?_
    dsimp only
    refine wpAny_of_eq (hgo v) (wp_no ?_)
    refine wpAny_mono (step i v _ hlt hPv (hnext _ _ _ _ hI hk₁) hst₁) (fun _ s₂ h₂ => wp_no (wpAny_mono h₂ (fun f s₃ h₃ => ?_) fun _ _ x => x)) fun _ _ x => x
    obtain ⟨rfl, hI₃, hk₃⟩ := h₃
    exact ⟨n + 1 - (i + 1), by omega, i + 1, W.frame _ _ _ hst₁ hk₃, hI₃, hlt, rfl⟩
  · have hin : i = n := by omega
    subst hin
    refine W.done _ _ _ hst' fun h₁ tk₁ hk₁ => ?_
    exact wpAny_execs_nil (hR _ (hnext _ _ _ _ hI hk₁))
end
end Mine
end
section -- E0b
namespace Mine
open PySem PySem.W PyProof.Rows
set_option maxRecDepth 100000
section
variable {prog : Program} {w : World} {A : Around} {E : Value → Shared → Prop} {s : Shared} {mg mb : Str → Option Value}
variable {env : Env} {m cm : Str → Option Value} {tabs : List (Addr × Tb)} {ob : List (Addr × Obj)} {s' : Shared}

theorem DSt.callAdd {L : Addr} {cs : List (Str × Addr)} {e1 e2 : PySem.Expr} {p pos : Pos} {Q : Value → Shared → Prop} (W : Wd mg mb s.heap) (rm : Rm A 2) (x : DSt prog w s L cs m cm tabs ob s')
    (h : wpAny (model prog w) A (eval e1 env) (fun v1 s1 => wpAny (model prog w) A (eval e2 env) (fun v2 s2 => ∃ t u T U tabs₂, v1 = .ref t ∧ v2 = .ref u ∧ (t, T) ∈ tabs₂ ∧ (u, U) ∈ tabs₂ ∧
      DSt prog w s L cs m cm tabs₂ ob s2 ∧ T.length + U.length ≤ 90000 ∧ ∀ D s3, s2.heap.objs.size ≤ D → DSt prog w s L cs m cm ((D, addT T U) :: tabs₂) ob s3 → Q (.ref D) s3) No s1) No s')
    (he1 : starEach [e1, e2] env = (false, eval e1 env) :: starEach [e2] env := by rfl) (he2 : starEach [e2] env = (false, eval e2 env) :: starEach [] env := by rfl)
    (hk : env.scope.kind = .function := by rfl) (hl : env.kindOf "add_callers" = some .globalImplicit := by rfl) (hg : env.globals = mainGlobals := by rfl) :
    wpAny (model prog w) A (eval (.Call (.Name "add_callers" p) [e1, e2] [] pos) env) Q No s' := by
  obtain ⟨a, cdv, hm, F⟩ := W.g2
  obtain ⟨o, doc, pm, ct, an, ho, hd, hc⟩ := id F
  refine Call_ (ng (W.keeps x.keep) hm ?_ hg hk hl)
  refine callWith_def hd ?_ he1
  refine args_cons ?_ he1
  refine wpAny_mono h (fun v1 s1 h1 => ?_) fun _ _ x => x
  refine args_cons ?_ he2
  refine wpAny_mono h1 (fun v2 s2 h2 => ?_) fun _ _ x => x
  obtain ⟨t, u, T, U, tabs₂, rfl, rfl, ht, hu, x2, hz, hQ⟩ := h2
  refine args_nil ?_
  refine ⟨x2.keep _ _ ho, wpAny_call ?_⟩
  refine call_add (F.keeps x2.keep) (W.keeps x2.keep) rm (x2.tabs _ ht).1 (x2.tabs _ hu).1 hz (x2.tabs _ ht).2.2.2 (x2.tabs _ hu).2.2.2 fun D h' tk hD hk' hT => ?_
  exact hQ _ _ hD (x2.add W hD hT hk')

theorem DSt.callSent {L : Addr} {cs : List (Str × Addr)} {e1 e2 : PySem.Expr} {p pos : Pos} {Q : Value → Shared → Prop} (W : Wd mg mb s.heap) (rm : Rm A 4) (x : DSt prog w s L cs m cm tabs ob s')
    (h : wpAny (model prog w) A (eval e1 env) (fun v1 s1 => wpAny (model prog w) A (eval e2 env) (fun v2 s2 => ∃ t e te T tabs₂, v1 = .ref t ∧ v2 = .str e te ∧ (t, T) ∈ tabs₂ ∧ EndOk e.cps.toList ∧ RowsOk T ∧
      DSt prog w s L cs m cm tabs₂ ob s2 ∧ T.length ≤ 4000 ∧ ∀ D s3, s2.heap.objs.size ≤ D → DSt prog w s L cs m cm ((D, sentT T) :: tabs₂) ob s3 → Q (.ref D) s3) No s1) No s')
    (he1 : starEach [e1, e2] env = (false, eval e1 env) :: starEach [e2] env := by rfl) (he2 : starEach [e2] env = (false, eval e2 env) :: starEach [] env := by rfl)
    (hk : env.scope.kind = .function := by rfl) (hl : env.kindOf "_law_sent" = some .globalImplicit := by rfl) (hg : env.globals = mainGlobals := by rfl) :
    wpAny (model prog w) A (eval (.Call (.Name "_law_sent" p) [e1, e2] [] pos) env) Q No s' := by
  obtain ⟨a, cdv, hm, F⟩ := W.g12
  obtain ⟨o, doc, pm, ct, an, ho, hd, hc⟩ := id F
  refine Call_ (ng (W.keeps x.keep) hm ?_ hg hk hl)
  refine callWith_def hd ?_ he1
  refine args_cons ?_ he1
  refine wpAny_mono h (fun v1 s1 h1 => ?_) fun _ _ x => x
  refine args_cons ?_ he2
  refine wpAny_mono h1 (fun v2 s2 h2 => ?_) fun _ _ x => x
  obtain ⟨t, e, te, T, tabs₂, rfl, rfl, ht, he, hT, x2, hz, hQ⟩ := h2
  refine args_nil ?_
  refine ⟨x2.keep _ _ ho, wpAny_call ?_⟩
  refine call_sent (F.keeps x2.keep) (W.keeps x2.keep) rm (x2.tabs _ ht).1 he hT hz (x2.tabs _ ht).2.2.2 fun D h' tk hD hk' hT => ?_
  exact hQ _ _ hD (x2.add W hD hT hk')
end
end Mine
end
section -- E0c
namespace Mine
open PySem PySem.W PyProof.Rows
set_option maxRecDepth 100000
section
variable {prog : Program} {w : World} {A : Around} {E : Value → Shared → Prop} {s : Shared} {mg mb : Str → Option Value}

def pick3 {α : Type} (a b c : α) (k : Int) : α := if k = 0 then a else if k = 1 then b else c

theorem wp_tail3 {l : Addr} {va vb vc : Value} {k : Int} {t : Tok} {value ei : PySem.Expr} {Q : Value → Shared → Prop} (hl : s.heap.IsList l #[va, vb, vc]) (h0 : 0 ≤ k) (h3 : k < 3)
    (hsub : subscripted ei false (.ref l) (.int k t) = operate [.ref l, .int k t] (getItem (.ref l) (.int k t)))
    (h : Q (pick3 va vb vc k) s) : wpAny (model prog w) A (subscriptTail value ei (.ref l) (.int k t)) Q E s := by
  refine tail_any (T := "list") hl.typeIs slot_list_getitem.lookup ?_ hsub
  refine wpAny_getItem_list hl h0 (by omega) ?_ h
  have : k = 0 ∨ k = 1 ∨ k = 2 := by omega
  rcases this with rfl | rfl | rfl <;> rfl

theorem pick3_str (a b c : Str) (ta tb tc : Tok) (k : Int) : ∃ t, pick3 (Value.str a ta) (.str b tb) (.str c tc) k = .str (pick3 a b c k) t := by
  unfold pick3
  split
  · exact ⟨_, rfl⟩
  · split <;> exact ⟨_, rfl⟩

theorem wp_pick3 {env : Env} {a b c : Str} {ka kb kc : Nat} {pa pb pc pl pos : Pos} {ei : PySem.Expr} {Q : Value → Shared → Prop}
    (h : ∀ h' tk, Kp s.heap h' → wpAny (model prog w) A (eval ei env) (fun v s2 => ∃ k t, v = .int k t ∧ Kp h' s2.heap ∧ 0 ≤ k ∧ k < 3 ∧ ∀ t', Q (.str (pick3 a b c k) t') s2) E { s with heap := h', toks := tk })
    (hsub : ∀ (o i : Value), subscripted ei false o i = operate [o, i] (getItem o i) := by intro _ _; rfl) :
    wpAny (model prog w) A (eval (.Subscript (.List [.Constant (.str a) ka pa, .Constant (.str b) kb pb, .Constant (.str c) kc pc] pl) ei pos) env) Q E s := by
  refine Subscript_ ?_
  refine wpAny_List ?_
  refine args_cons (Calls.Constant_str ?_)
  refine args_cons (Calls.Constant_str ?_)
  refine args_cons (Calls.Constant_str ?_)
  refine args_nil ?_
  refine ⟨by show 3 ≤ sizeLine; decide, ?_⟩
  refine wpAny_mono (h _ _ fun b o e => Heap.get?_push_of_some _ e) (fun v s2 h2 => ?_) fun _ _ x => x
  obtain ⟨k, t, rfl, hk2, h0, h3, hQ⟩ := h2
  refine wp_tail3 (va := .str a _) (vb := .str b _) (vc := .str c _) ⟨_, hk2 _ _ (Heap.get?_push_size _ rfl), rfl, _, rfl⟩ h0 h3 (hsub _ _) ?_
  obtain ⟨t', e⟩ := pick3_str a b c _ _ _ k
  rw [e]
  exact hQ t'
end
end Mine
end
section -- PU
namespace Mine
open PySem PySem.W PyProof.Rows
set_option maxRecDepth 100000

theorem put_mem {T : Tb} {k : Str} {c : Int} {p : Str × Int} (h : p ∈ put T k c) : p.1 = k ∨ ∃ q ∈ T, q.1 = p.1 := by
  unfold put at h
  split at h
  · obtain ⟨q, hq, e⟩ := List.mem_map.mp h
    split at e
    · exact .inr ⟨q, hq, by rw [← e]⟩
    · exact .inr ⟨q, hq, by rw [← e]⟩
  · rcases List.mem_append.mp h with h | h
    · exact .inr ⟨p, h, rfl⟩
    · rw [List.mem_singleton.mp h]; exact .inl rfl

/-- all a table's names -/
def Keys (P : Str → Prop) (T : Tb) : Prop := ∀ p ∈ T, P p.1
theorem Keys.nil {P : Str → Prop} : Keys P [] := fun _ h => nomatch h
theorem Keys.put {P : Str → Prop} {T : Tb} (h : Keys P T) {k : Str} (hk : P k) (c : Int) : Keys P (put T k c) := fun p hp => by
  rcases put_mem hp with e | ⟨q, hq, e⟩
  · rw [e]; exact hk
  · rw [← e]; exact h q hq
theorem Keys.foldl {P : Str → Prop} {f : Tb → Str × Int → Tb} (hf : ∀ acc p, Keys P acc → P p.1 → Keys P (f acc p)) : ∀ (U acc : Tb), Keys P acc → Keys P U → Keys P (U.foldl f acc)
  | [], _, h, _ => h
  | p :: U, acc, h, hU => Keys.foldl hf U _ (hf acc p h (hU p (.head _))) fun q hq => hU q (.tail _ hq)
theorem Keys.addT {P : Str → Prop} {T U : Tb} (h : Keys P T) (hU : Keys P U) : Keys P (addT T U) :=
  Keys.foldl (fun _ _ h hp => h.put hp _) U _ (Keys.foldl (fun _ _ h hp => h.put hp _) T [] .nil h) hU
theorem Keys.filterMap {P Q : Str → Prop} {T : Tb} {g : Str × Int → Option (Str × Int)} (h : Keys P T) (hg : ∀ p q, P p.1 → g p = some q → Q q.1) : Keys Q (T.filterMap g) := fun q hq => by
  obtain ⟨p, hp, e⟩ := List.mem_filterMap.mp hq
  exact hg p q (h p hp) e
theorem Keys.sent {P Q : Str → Prop} {T : Tb} (h : Keys P T) (hg : ∀ k, P k → Q (dot k)) : Keys Q (sentT T) := fun q hq => by
  obtain ⟨p, hp, rfl⟩ := List.mem_map.mp hq
  exact hg _ (h p hp)
theorem Keys.mono {P Q : Str → Prop} {T : Tb} (h : Keys P T) (hg : ∀ k, P k → Q k) : Keys Q T := fun p hp => hg _ (h p hp)

theorem addT_length (T U : Tb) : (addT T U).length ≤ T.length + U.length := by
  have h1 := foldl_length addStep_length U (T.foldl setStep [])
  have h2 := foldl_length setStep_length T []
  unfold addT
  simp only [List.length_nil] at h2
  omega

/-- a row of at most n signs -/
def RowN (n : Nat) (k : Str) : Prop := IsRow k ∧ k.cps.toList.length ≤ n
theorem RowN.dot {n : Nat} {k : Str} (h : RowN n k) : RowN (n + 1) (dot k) := by
  obtain ⟨⟨m, s, hs, e⟩, hl⟩ := h
  refine ⟨⟨m + 1, s, hs, ?_⟩, ?_⟩
  · simp [Mine.dot, e, List.replicate_succ]
  · simp [Mine.dot] at hl ⊢; omega
theorem RowN.reSign {n o : Nat} {k : Str} (h : RowN n k) (ho : o < 3) : RowN n (reSign k (120 + o)) := by
  obtain ⟨⟨m, s, hs, e⟩, hl⟩ := h
  refine ⟨⟨m, o, ho, ?_⟩, ?_⟩
  · simp [Mine.reSign, e]
  · simp [Mine.reSign, e] at hl ⊢; omega
theorem RowN.up {n m : Nat} {k : Str} (h : RowN n k) (hn : n ≤ m) : RowN m k := ⟨h.1, Nat.le_trans h.2 hn⟩
theorem rowsOk {n : Nat} {T : Tb} (h : Keys (RowN n) T) (hn : n ≤ 60) : RowsOk T := fun p hp => ⟨(h p hp).1.dotRow, Nat.le_trans (h p hp).2 hn⟩

theorem nat_nodup_le : ∀ (N : Nat) (l : List Nat), l.Nodup → (∀ x ∈ l, x < N) → l.length ≤ N
  | 0, l, _, h => by
    cases l with
    | nil => simp
    | cons a l => exact absurd (h a (.head _)) (Nat.not_lt_zero _)
  | N + 1, l, hn, h => by
    have h1 := nat_nodup_le N (l.erase N) (hn.erase N) fun x hx => by
      have h2 := h x (List.mem_of_mem_erase hx)
      have h3 : x ≠ N := fun e => by
        subst e
        exact hn.not_mem_erase hx
      omega
    by_cases hm : N ∈ l
    · rw [List.length_erase_of_mem hm] at h1; omega
    · rw [List.erase_of_not_mem hm] at h1; omega

/-- a row's number -/
def rowNo (k : Str) : Nat := 3 * k.cps.toList.length + (lastC k - 120)
theorem IsRow.eq_of {a b : Str} (ha : IsRow a) (hb : IsRow b) (h : rowNo a = rowNo b) : a = b := by
  obtain ⟨n, s, hs, ea⟩ := ha
  obtain ⟨m, r, hr, eb⟩ := hb
  simp only [rowNo, lastC, ea, eb, List.length_append, List.length_replicate, List.length_cons, List.length_nil, List.getLastD_eq_getLast?, List.getLast?_append, List.getLast?_singleton, Option.some_or, Option.getD_some] at h
  have hs' : s = r := by omega
  have hn : n = m := by omega
  subst hs'; subst hn
  obtain ⟨a⟩ := a; obtain ⟨b⟩ := b
  have : a.toList = b.toList := by rw [show a.toList = _ from ea, show b.toList = _ from eb]
  simpa using Array.toList_inj.mp this
theorem rows_le {n : Nat} {T : Tb} (hn : (T.map (·.1)).Nodup) (h : Keys (RowN n) T) : T.length ≤ 3 * (n + 1) := by
  have h1 : (T.map fun p => rowNo p.1).Nodup := by
    unfold List.Nodup at hn ⊢
    rw [List.pairwise_map] at hn ⊢
    exact List.Pairwise.imp_of_mem (fun ha hb hne e => hne ((h _ ha).1.eq_of (h _ hb).1 e)) hn
  have h2 := nat_nodup_le (3 * (n + 1)) _ h1 fun x hx => by
    obtain ⟨p, hp, rfl⟩ := List.mem_map.mp hx
    obtain ⟨hr, hl⟩ := h p hp
    obtain ⟨s, hs, e⟩ := hr.last
    unfold rowNo
    omega
  simpa using h2
end Mine
end
section -- E1
namespace Mine
open PySem PySem.W PyProof.Rows
set_option maxRecDepth 100000

def stillF (o : Nat) (p : Str × Int) : Option (Str × Int) := if lastC p.1 = 120 + o then some (p.1, -p.2) else none
def movedF (o : Nat) (p : Str × Int) : Option (Str × Int) := if lastC p.1 = 120 + o then none else some p
def madeF (o sg : Nat) (p : Str × Int) : Option (Str × Int) := if lastC p.1 = sg then some (reSign p.1 (120 + o), p.2) else none
def nzF (p : Str × Int) : Option (Str × Int) := if p.2 = 0 then none else some p
def signs (o : Nat) : List Nat := match o with
  | 0 => [121]
  | 1 => [120, 122]
  | _ => [121]
def besideT (T : Tb) (o : Nat) : Tb := (signs o).foldl (fun b sg => addT b (T.filterMap (madeF o sg))) []
def firstT (T : Tb) (d : Nat) : Tb := if d < 3 then T.filterMap (stillF (d % 3)) else T.filterMap (movedF (d % 3))
def secondT (T : Tb) (d : Nat) : Tb := if d < 3 then T.filterMap (movedF (d % 3)) else T.filterMap (stillF (d % 3))
def onceT (T : Tb) (d : Nat) : Tb := addT (sentT (secondT T d)) (besideT (T.filterMap (movedF (d % 3))) (d % 3))
def doneT (T : Tb) (d : Nat) : Tb := (addT (firstT T d) (sentT (onceT T d))).filterMap nzF

theorem apart_still (T : Tb) (o : Nat) : Apart T (stillF o) := by
  intro p _ q _ p' q' hp hq e
  unfold stillF at hp hq
  split at hp <;> cases hp
  split at hq <;> cases hq
  exact e
theorem apart_moved (T : Tb) (o : Nat) : Apart T (movedF o) := by
  intro p _ q _ p' q' hp hq e
  unfold movedF at hp hq
  split at hp <;> cases hp
  split at hq <;> cases hq
  exact e
theorem apart_nz (T : Tb) : Apart T nzF := by
  intro p _ q _ p' q' hp hq e
  unfold nzF at hp hq
  split at hp <;> cases hp
  split at hq <;> cases hq
  exact e
theorem reSign_inj {a b : Str} {c : Nat} (ha : 0 < a.cps.toList.length) (hb : 0 < b.cps.toList.length) (hl : lastC a = lastC b) (h : reSign a c = reSign b c) : a = b := by
  have h1 := congrArg (fun s : Str => s.cps.toList) h
  simp only [reSign, List.append_cancel_right_eq] at h1
  have e : ∀ x : Str, 0 < x.cps.toList.length → x.cps.toList = x.cps.toList.dropLast ++ [lastC x] := fun x hx => by
    have hne : x.cps.toList ≠ [] := List.length_pos_iff.mp hx
    rw [lastC, List.getLastD_eq_getLast?, List.getLast?_eq_some_getLast hne]
    exact (List.dropLast_concat_getLast hne).symm
  have : a.cps.toList = b.cps.toList := by rw [e a ha, e b hb, h1, hl]
  obtain ⟨a⟩ := a; obtain ⟨b⟩ := b
  simpa using Array.toList_inj.mp this
theorem apart_made {T : Tb} (o sg : Nat) (hT : ∀ p ∈ T, IsRow p.1) : Apart T (madeF o sg) := by
  intro p hp q hq p' q' hp' hq' e
  unfold madeF at hp' hq'
  split at hp'
  · rename_i h1
    split at hq'
    · rename_i h2
      cases hp'; cases hq'
      exact reSign_inj (hT p hp).ne (hT q hq).ne (h1.trans h2.symm) e
    · cases hq'
  · cases hp'

section
variable {prog : Program} {w : World} {A : Around} {E : Value → Shared → Prop} {s : Shared} {mg mb : Str → Option Value}

theorem keeps_tok (s : Shared) (tk : Nat) : Keeps s { s with toks := tk } := ⟨s.heap, tk, rfl, fun _ _ e => e⟩

theorem sign_test (k : Str) (o : Nat) : ((⟨#[lastC k]⟩ : Str).cps.toList == (⟨#[120 + ((o : Nat) : Int).toNat]⟩ : Str).cps.toList) = decide (lastC k = 120 + o) := by
  simp only [Int.toNat_natCast]
  by_cases h : lastC k = 120 + o
  · simp [h]
  · simp [h]
theorem sign_test' (k : Str) (o : Nat) : ((⟨#[lastC k]⟩ : Str).cps.toList != (⟨#[120 + ((o : Nat) : Int).toNat]⟩ : Str).cps.toList) = !decide (lastC k = 120 + o) := by
  show (!((⟨#[lastC k]⟩ : Str).cps.toList == (⟨#[120 + ((o : Nat) : Int).toNat]⟩ : Str).cps.toList)) = _
  rw [sign_test]

theorem deed_mod {d : Nat} : ((d : Int)).fmod 3 = ((d % 3 : Nat) : Int) := by
  rw [Int.fmod_eq_emod_of_nonneg _ (by decide)]; rfl

theorem reSign_append (k : Str) (c : Nat) : (⟨k.cps.toList.dropLast.toArray⟩ : Str) ++ ⟨#[c]⟩ = reSign k c := by
  show (⟨k.cps.toList.dropLast.toArray ++ #[c]⟩ : Str) = _
  unfold reSign
  simp
theorem sign_test2 (k : Str) (c : Nat) : ((⟨#[lastC k]⟩ : Str).cps.toList == (⟨#[c]⟩ : Str).cps.toList) = decide (lastC k = c) := by
  by_cases h : lastC k = c
  · simp [h]
  · simp [h]
theorem signs_get {o i c : Nat} (ho : o < 3) (h : (pick3 (Str.ofString "y") (Str.ofString "xz") (Str.ofString "y") (o : Int)).cps[i]? = some c) : (signs o)[i]? = some c := by
  have : o = 0 ∨ o = 1 ∨ o = 2 := by omega
  rcases this with rfl | rfl | rfl
  · have e : (pick3 (Str.ofString "y") (Str.ofString "xz") (Str.ofString "y") ((0 : Nat) : Int)).cps = #[121] := by decide
    rw [e] at h; simpa [signs] using h
  · have e : (pick3 (Str.ofString "y") (Str.ofString "xz") (Str.ofString "y") ((1 : Nat) : Int)).cps = #[120, 122] := by decide
    rw [e] at h; simpa [signs] using h
  · have e : (pick3 (Str.ofString "y") (Str.ofString "xz") (Str.ofString "y") ((2 : Nat) : Int)).cps = #[121] := by decide
    rw [e] at h; simpa [signs] using h
theorem signs_ascii {o : Nat} (ho : o < 3) : (pick3 (Str.ofString "y") (Str.ofString "xz") (Str.ofString "y") (o : Int)).cps.all (· < 128) = true := by
  have : o = 0 ∨ o = 1 ∨ o = 2 := by omega
  rcases this with rfl | rfl | rfl <;> decide +kernel
theorem signs_len {o : Nat} (ho : o < 3) : (pick3 (Str.ofString "y") (Str.ofString "xz") (Str.ofString "y") (o : Int)).cps.size = (signs o).length := by
  have : o = 0 ∨ o = 1 ∨ o = 2 := by omega
  rcases this with rfl | rfl | rfl <;> decide

theorem DSt.turned {L : Addr} {cs : List (Str × Addr)} {m m' cm : Str → Option Value} {tabs : List (Addr × Tb)} {ob : List (Addr × Obj)} {s' : Shared} (x : DSt prog w s L cs m cm tabs ob s') {h' : Heap} {tk : Nat}
    (hk : ∀ c o, c ≠ L → s'.heap.get? c = some o → h'.get? c = some o) (hn : h'.Ns L m') : DSt prog w s L cs m' cm tabs ob { s' with heap := h', toks := tk } := by
  obtain ⟨⟨⟨⟨H, tk0, rfl⟩, ns, keep, fr⟩, cell, ap, ab⟩, tb, ob⟩ := x
  refine ⟨⟨⟨⟨h', tk, rfl⟩, hn, fun b o e => ?_, fr⟩, fun k c hc => ?_, ap, ab⟩, fun p hp => ?_, fun p hp => ⟨hk _ _ (ob p hp).2.1 (ob p hp).1, (ob p hp).2⟩⟩
  · exact hk b o (Nat.ne_of_lt (Nat.lt_of_lt_of_le (Heap.lt_size e) fr)) (keep b o e)
  · obtain ⟨o, ho, hd⟩ := cell k c hc
    exact ⟨o, hk c o (Nat.ne_of_gt (ab k c (mem_of_lookup hc))) ho, hd⟩
  · exact ⟨(tb p hp).1.keep fun o e => hk _ o (tb p hp).2.1 e, (tb p hp).2⟩
theorem DSt.tabsSub {L : Addr} {cs : List (Str × Addr)} {m cm : Str → Option Value} {tabs tabs' : List (Addr × Tb)} {ob ob' : List (Addr × Obj)} {s' : Shared} (x : DSt prog w s L cs m cm tabs ob s') (ht : ∀ p ∈ tabs', p ∈ tabs) (ho : ∀ p ∈ ob', p ∈ ob) : DSt prog w s L cs m cm tabs' ob' s' :=
  ⟨x.ic, fun p hp => x.tabs p (ht p hp), fun p hp => x.ob p (ho p hp)⟩
theorem DSt.watching {L I : Addr} {cs : List (Str × Addr)} {m cm : Str → Option Value} {tabs : List (Addr × Tb)} {s' : Shared} (x : DSt prog w s L cs m cm tabs [] s') (hIL : I ≠ L) (hIc : ∀ n c, cs.lookup n = some c → I ≠ c) :
    ∃ ob, DSt prog w s L cs m cm tabs ob s' ∧ ∀ o, s'.heap.get? I = some o → (I, o) ∈ ob := by
  cases hq : s'.heap.get? I with
  | none => exact ⟨[], x, fun o e => nomatch e⟩
  | some o => exact ⟨[(I, o)], x.watch hq hIL hIc, fun o' e => by cases e; simp⟩

set_option maxHeartbeats 16000000 in
theorem call_done {a t : Addr} {cdv : Value} {T : Tb} {d : Nat} {e : Str} {td te : Tok} {R : Result → Shared → Prop} (F : FnAt s.heap a "_law_done" 13 cdv) (W : Wd mg mb s.heap) (rm : Rm A 6)
    (ht : Tab prog w s.heap t T) (he : EndOk e.cps.toList) (hT : Keys (RowN 50) T) (htS : (t == sysModules) = false) (hd : d < 6)
    (h : ∀ D h' tk, s.heap.objs.size ≤ D → Kp s.heap h' → Tab prog w h' D (doneT T d) → R (.ok (.ret (.ref D))) { s with heap := h', toks := tk }) :
    codeAny (model prog w) A (.call (.ref a) ⟨[.ref t, .int d td, .str e te], []⟩) R s := by
  have hz : T.length ≤ 200 := Nat.le_trans (rows_le ht.nodup hT) (by decide)
  refine wp_enterC (binds := [("table", .ref t), ("deed", .int d td), ("end", .str e te)]) F W rm.room (fun _ _ _ _ => by rfl) (by rfl) fun s₁ x => ?_
  generalize hL : s.heap.objs.size = L at x ⊢
  have rm' := rm.deeper (envOfC "_law_done" (scopeOf 13) L a cdv)
  generalize hA : A.deeper (envOfC "_law_done" (scopeOf 13) L a cdv) = A' at rm' ⊢
  have hh : A'.handled = none := rm'.hh
  have hcs : cellsFrom (L + 1) (scopeOf 13).names [] = [(Str.ofString "sign", L + 2), (Str.ofString "own", L + 1)] := by rfl
  have x0 : DSt prog w s L (cellsFrom (L + 1) (scopeOf 13).names []) _ _ [] [] s₁ := ⟨x, (fun p hp => nomatch hp), (fun p hp => nomatch hp)⟩
  have htab : ∀ {s' : Shared}, Kp s.heap s'.heap → Tab prog w s'.heap t T := fun k => ht.keeps k
  -- own = deed % 3
  refine wpAny_execs_cons (wpAny_Assign_Name ?_)
  refine wpAny_BinOp ?_
  refine nm x0.ns rfl ?_
  refine wpAny_Constant_int ?_
  refine PyProof.Rows.mod_int (by decide) ?_
  rw [deed_mod]
  refine (x0.toks _).storeC (env := envOfC "_law_done" (scopeOf 13) L a cdv) rfl rfl (c := L + 1) rfl fun s₂ x2 => ?_
  -- still = {..}
  have hlast : ∀ p ∈ T, 0 < p.1.cps.toList.length := fun p hp => (hT p hp).1.ne
  have ho3 : ((d % 3 : Nat) : Int) < 3 := by omega
  refine wpAny_execs_cons ?_
  refine wp_Assign_DictComp_items (d := t) (T := T) (g := stillF (d % 3)) (cl := [(Str.ofString "own", L + 1)]) (m := _) hh htS (htab x2.keep) (by omega) (apart_still _ _) (by rfl) (by rfl) (by decide) rfl (by decide) rfl rfl (by decide) rfl rfl rfl rfl (fun Q' q => nm x2.ns rfl q) x2.ns ?_ ?_
  · intro C p t1 t2 s₃ m₃ hp hn₃ hka hkb hkp
    have hcell : s₃.heap.IsCell (L + 1) (some (.int ((d % 3 : Nat) : Int) _)) := (x2.ic.cell (Str.ofString "own") (L + 1) rfl).keeps hkp
    refine wpAny_tests_one ?_
    refine wpAny_isTrue_Compare1 ?_
    refine wp_last hn₃ hka (hlast p hp) fun tk3 tk3' => ?_
    refine wp_xyz (c := L + 1) rfl hcell (by omega) ho3 fun tk4 tk4' => ?_
    refine P.eq_str ?_
    refine wpAny_truthy_bool ?_
    refine ⟨keeps_tok _ _, ?_⟩
    rw [sign_test]
    by_cases hl : lastC p.1 = 120 + d % 3
    · rw [decide_eq_true hl, if_pos rfl]
      refine nm hn₃ hka ⟨keeps_refl _, ?_⟩
      refine wpAny_UnaryOp ?_
      refine nm hn₃ hkb ?_
      refine PyProof.Rows.neg_int ?_
      exact ⟨keeps_tok _ _, (p.1, -p.2), _, _, by rw [stillF, if_pos hl], rfl, rfl⟩
    · rw [decide_eq_false hl, if_neg (by decide)]
      rw [stillF, if_neg hl]
  intro D3 h3 tk3 hD3 hk3 hT3 hn3
  have x3 := x2.addStored (tk := tk3) W hD3 hT3 hk3 hn3
  -- moved = {..}
  refine wpAny_execs_cons ?_
  refine wp_Assign_DictComp_items (d := t) (T := T) (g := movedF (d % 3)) (cl := [(Str.ofString "own", L + 1)]) (m := _) hh htS (htab x3.keep) (by omega) (apart_moved _ _) (by rfl) (by rfl) (by decide) rfl (by decide) rfl rfl (by decide) rfl rfl rfl rfl (fun Q' q => nm x3.ns rfl q) x3.ns ?_ ?_
  · intro C p t1 t2 s₃ m₃ hp hn₃ hka hkb hkp
    have hcell : s₃.heap.IsCell (L + 1) (some (.int ((d % 3 : Nat) : Int) _)) := (x3.ic.cell (Str.ofString "own") (L + 1) rfl).keeps hkp
    refine wpAny_tests_one ?_
    refine wpAny_isTrue_Compare1 ?_
    refine wp_last hn₃ hka (hlast p hp) fun tk3 tk3' => ?_
    refine wp_xyz (c := L + 1) rfl hcell (by omega) ho3 fun tk4 tk4' => ?_
    refine P.ne_str ?_
    refine wpAny_truthy_bool ?_
    refine ⟨keeps_tok _ _, ?_⟩
    rw [sign_test']
    by_cases hl : lastC p.1 = 120 + d % 3
    · rw [decide_eq_true hl, if_neg (by decide)]
      rw [movedF, if_pos hl]
    · rw [decide_eq_false hl, if_pos (by decide)]
      refine nm hn₃ hka ⟨keeps_refl _, ?_⟩
      refine nm hn₃ hkb ?_
      exact ⟨keeps_refl _, p, _, _, by rw [movedF, if_neg hl], rfl, rfl⟩
  intro D4 h4 tk4 hD4 hk4 hT4 hn4
  have x4 := x3.addStored (tk := tk4) W hD4 hT4 hk4 hn4
  -- beside = {}
  refine wpAny_execs_cons (wpAny_Assign_Name (wpAny_Dict_empty ?_))
  have x5 := x4.add (tk := tk4) W (Nat.le_refl _) (Tab.new (prog := prog) (w := w) h4) (fun b o e => Heap.get?_push_of_some _ e)
  refine x5.store (env := envOfC "_law_done" (scopeOf 13) L a cdv) rfl rfl fun s₆ x6 => ?_
  -- for sign in ['y', 'xz', 'y'][own]
  refine wpAny_execs_cons (wpAny_For ?_)
  refine wp_pick3 fun h7 tk7 hk7 => ?_
  have x7 := x6.grow (tk := tk7) hk7
  refine wpAny_Name (wpAny_loadName_cell rfl rfl (c := L + 1) rfl (x7.ic.cell (Str.ofString "own") (L + 1) rfl) ?_) (by decide)
  refine ⟨_, _, rfl, fun _ _ e => e, by omega, ho3, fun t' => ?_⟩
  have ho3' : d % 3 < 3 := Nat.mod_lt _ (by decide)
  refine wpAny_pyIter_ascii (signs_ascii ho3') ?_
  have hst : (h7.push { cls := .type "str_ascii_iterator", data := .fields #[.str (pick3 (Str.ofString "y") (Str.ofString "xz") (Str.ofString "y") ((d % 3 : Nat) : Int)) t', .int 0 0] }).IsStrIter h7.objs.size "str_ascii_iterator" (pick3 (Str.ofString "y") (Str.ofString "xz") (Str.ofString "y") ((d % 3 : Nat) : Int)) t' 0 := ⟨_, Heap.get?_push_size _ rfl, rfl, rfl⟩
  generalize ({ cls := .type "str_ascii_iterator", data := .fields #[.str (pick3 (Str.ofString "y") (Str.ofString "xz") (Str.ofString "y") ((d % 3 : Nat) : Int)) t', .int 0 0] } : Obj) = oI at hst ⊢
  have x8 := x7.grow (tk := tk7) (h' := h7.push oI) fun b o e => Heap.get?_push_of_some _ e
  have hI7 : h7.objs.size ≠ L := Nat.ne_of_gt x7.lt
  have hIc : ∀ n c, (cellsFrom (L + 1) (scopeOf 13).names []).lookup n = some c → h7.objs.size ≠ c := fun n c hc => Nat.ne_of_gt (x7.cellLt hc)
  have hI0 : s.heap.get? h7.objs.size = none := fresh_none (by rw [hL]; exact Nat.le_of_lt x7.lt)
  have hD4I : D4 ≠ h7.objs.size := Nat.ne_of_lt (x7.tabLt (p := (D4, _)) (.tail _ (.head _)))
  have hD3I : D3 ≠ h7.objs.size := Nat.ne_of_lt (x7.tabLt (p := (D3, _)) (.tail _ (.tail _ (.head _))))
  have hB0 : h4.objs.size ≠ h7.objs.size := Nat.ne_of_lt (x7.tabLt (p := (h4.objs.size, _)) (.head _))
  have hTm : Keys (RowN 50) (T.filterMap (movedF (d % 3))) := hT.filterMap fun p q hp e => by
    unfold movedF at e; split at e <;> cases e; exact hp
  have hTs : Keys (RowN 50) (T.filterMap (stillF (d % 3))) := hT.filterMap fun p q hp e => by
    unfold stillF at e; split at e <;> cases e; exact hp
  have hlm : (T.filterMap (movedF (d % 3))).length ≤ 200 := Nat.le_trans (List.length_filterMap_le _ _) hz
  have hls : (T.filterMap (stillF (d % 3))).length ≤ 200 := Nat.le_trans (List.length_filterMap_le _ _) hz
  have hmade : ∀ sg, ((T.filterMap (movedF (d % 3))).filterMap (madeF (d % 3) sg)).length ≤ 200 := fun sg => Nat.le_trans (List.length_filterMap_le _ _) hlm
  have hTk : ∀ sg, Keys (RowN 50) ((T.filterMap (movedF (d % 3))).filterMap (madeF (d % 3) sg)) := fun sg => hTm.filterMap fun p q hp e => by
    unfold madeF at e; split at e <;> cases e; exact hp.reSign (Nat.mod_lt _ (by decide))
  generalize hM : T.filterMap (movedF (d % 3)) = M at *
  generalize hS : T.filterMap (stillF (d % 3)) = S at *
  have hbl : ∀ i, i ≤ 2 → (((signs (d % 3)).take i).foldl (fun b sg => addT b (M.filterMap (madeF (d % 3) sg))) []).length ≤ i * 200 := by
    intro i hi
    have gen : ∀ (l : List Nat) (b : Tb), (l.foldl (fun b sg => addT b (M.filterMap (madeF (d % 3) sg))) b).length ≤ b.length + l.length * 200 := by
      intro l
      induction l with
      | nil => intro b; simp
      | cons c l ih =>
        intro b
        have h1 := ih (addT b (M.filterMap (madeF (d % 3) c)))
        have h2 := addT_length b (M.filterMap (madeF (d % 3) c))
        have h3 := hmade c
        simp only [List.foldl_cons, List.length_cons]
        omega
    have h3 := gen ((signs (d % 3)).take i) []
    have h4 : ((signs (d % 3)).take i).length ≤ i := List.length_take_le ..
    have h5 : ((signs (d % 3)).take i).length * 200 ≤ i * 200 := Nat.mul_le_mul_right _ h4
    simp only [List.length_nil] at h3
    omega
  have hsl : (signs (d % 3)).length ≤ 2 := by
    have : d % 3 = 0 ∨ d % 3 = 1 ∨ d % 3 = 2 := by omega
    rcases this with e | e | e <;> rw [e] <;> decide
  have hbk : ∀ i, Keys (RowN 50) (((signs (d % 3)).take i).foldl (fun b sg => addT b (M.filterMap (madeF (d % 3) sg))) []) := by
    intro i
    have gen : ∀ (l : List Nat) (b : Tb), Keys (RowN 50) b → Keys (RowN 50) (l.foldl (fun b sg => addT b (M.filterMap (madeF (d % 3) sg))) b) := by
      intro l
      induction l with
      | nil => intro b hb; exact hb
      | cons c l ih => intro b hb; exact ih _ (hb.addT (hTk c))
    exact gen _ _ .nil
  refine for_walk (Walks.strAscii hh h7.objs.size _ t') (fun v => by rfl) (fun i s' => ∃ m cm B, DSt prog w s L (cellsFrom (L + 1) (scopeOf 13).names []) m cm
    [(B, ((signs (d % 3)).take i).foldl (fun b sg => addT b (M.filterMap (madeF (d % 3) sg))) []), (D4, M), (D3, S)] [] s' ∧ B ≠ h7.objs.size ∧
    m (Str.ofString "beside") = some (.ref B) ∧ m (Str.ofString "still") = some (.ref D3) ∧ m (Str.ofString "moved") = some (.ref D4) ∧ m (Str.ofString "deed") = some (.int d td) ∧ m (Str.ofString "end") = some (.str e te) ∧ m (Str.ofString "table") = some (.ref t) ∧
    (∃ to, cm (Str.ofString "own") = some (.int ((d % 3 : Nat) : Int) to))) hst ⟨_, _, _, x8, hB0, rfl, rfl, rfl, rfl, rfl, rfl, ⟨_, rfl⟩⟩ ?_ ?_ ?_
  · rintro i s' h' tk ⟨m, cm, B, y, hB, hm⟩ hk
    refine ⟨m, cm, B, y.other (I := h7.objs.size) (fun b o hb e => hk b o (by simpa using hb) e) hI0 hI7 hIc ?_ (fun p hp => nomatch hp), hB, hm⟩
    intro p hp
    simp only [List.mem_cons, List.not_mem_nil, or_false] at hp
    rcases hp with rfl | rfl | rfl
    · exact hB
    · exact hD4I
    · exact hD3I
  · rintro i v s₁ hi ⟨c, u, hc, rfl⟩ ⟨m, cm, B, y, hBI, hmB, hms, hmm, hmd, hme, hmt, to, hmo⟩ hst1
    have hsg := signs_get ho3' hc
    have hi2 : i < 2 := by rw [signs_len ho3'] at hi; omega
    obtain ⟨oJ, hoJ, hJ2⟩ := hst1
    have yw := y.watch hoJ hI7 hIc
    refine wpAny_assign_Name ?_
    refine yw.storeC (env := envOfC "_law_done" (scopeOf 13) L a cdv) rfl rfl (c := L + 2) rfl fun s₂ y2 => ?_
    refine wpAny_execs_cons ?_
    have hMt := y2.tabs (D4, M) (by simp)
    refine wp_Assign_DictComp_items (d := D4) (T := M) (g := madeF (d % 3) c) (cl := [(Str.ofString "sign", L + 2), (Str.ofString "own", L + 1)]) (m := m) hh hMt.2.2.2 hMt.1 (by omega) (apart_made _ _ fun p hp => (hTm p hp).1) (by rfl) (by rfl) (by decide) rfl (by decide) rfl rfl (by decide) rfl rfl rfl rfl (fun Q' q => nm y2.ns hmm q) y2.ns ?_ ?_
    · intro C p t1 t2 s₃ m₃ hp hn₃ hka hkb hkp
      have hcell : s₃.heap.IsCell (L + 1) (some (.int ((d % 3 : Nat) : Int) to)) := by
        have := y2.ic.cell (Str.ofString "own") (L + 1) rfl
        rw [if_neg (by decide), hmo] at this
        exact this.keeps hkp
      have hcell2 : s₃.heap.IsCell (L + 2) (some (.str ⟨#[c]⟩ u)) := by
        have := y2.ic.cell (Str.ofString "sign") (L + 2) rfl
        rw [if_pos rfl] at this
        exact this.keeps hkp
      have hrow : RowN 50 p.1 := hTm p hp
      refine wpAny_tests_one ?_
      refine wpAny_isTrue_Compare1 ?_
      refine wp_last hn₃ hka hrow.1.ne fun tk3 tk3' => ?_
      refine wpAny_Name (wpAny_loadName_cell rfl rfl (c := L + 2) rfl hcell2 ?_) (by decide)
      refine P.eq_str ?_
      refine wpAny_truthy_bool ?_
      refine ⟨keeps_tok _ _, ?_⟩
      rw [sign_test2]
      by_cases hl : lastC p.1 = c
      · rw [decide_eq_true hl, if_pos rfl]
        refine wpAny_BinOp ?_
        refine wp_body hn₃ hka hrow.1.ne (by have := hrow.2; omega) fun h9 tk9 tk9' hk9 => ?_
        refine wp_xyz (c := L + 1) rfl (hcell.keeps hk9) (by omega) ho3 fun tk4 tk4' => ?_
        refine PyProof.Rows.add_str (fun t' tk' => ?_) ?_
        · refine ⟨⟨h9, tk', rfl, hk9⟩, ?_⟩
          refine nm (hn₃.keeps hk9) hkb ⟨keeps_refl _, ?_⟩
          exact ⟨(reSign p.1 (120 + d % 3), p.2), t', _, by rw [madeF, if_pos hl], by rw [← reSign_append]; rfl, rfl⟩
        · have := hrow.2
          simp [Str.length] at this ⊢
          have h5 : (100 : Nat) ≤ sizeLine := by decide
          omega
      · rw [decide_eq_false hl, if_neg (by decide)]
        rw [madeF, if_neg hl]
    intro D5 h5 tk5 hD5 hk5 hT5 hn5
    have y3 := y2.addStored (tk := tk5) W hD5 hT5 hk5 hn5
    refine wpAny_execs_cons (wpAny_Assign_Name ?_)
    refine y3.callAdd W (rm'.mono (by omega)) ?_
    refine nm y3.ns (show _ = some (Value.ref B) from hmB) ?_
    refine nm y3.ns (show _ = some (Value.ref D5) from rfl) ?_
    refine ⟨B, D5, _, _, _, rfl, rfl, .tail _ (.head _), .head _, y3, ?_, fun D6 s6 hD6 y6 => ?_⟩
    · have := hbl i (by omega); have := hmade c; omega
    have hD6I : D6 ≠ h7.objs.size := Nat.ne_of_gt (Nat.lt_of_lt_of_le (Heap.lt_size (y3.ob (h7.objs.size, oJ) (by simp)).1) hD6)
    refine y6.store (env := envOfC "_law_done" (scopeOf 13) L a cdv) rfl rfl fun s7 y7 => ?_
    refine wpAny_execs_nil ?_
    refine ⟨rfl, ⟨_, _, D6, y7.tabsSub ?_ (fun p hp => nomatch hp), hD6I, rfl, hms, hmm, hmd, hme, hmt, to, hmo⟩, ?_⟩
    · intro p hp
      rw [take_next hsg, List.foldl_append] at hp
      simp only [List.mem_cons, List.not_mem_nil, or_false, List.foldl_cons, List.foldl_nil] at hp ⊢
      rcases hp with h | h | h
      · exact .inl h
      · exact .inr (.inr (.inr (.inl h)))
      · exact .inr (.inr (.inr (.inr h)))
    · intro b hb o ho
      rw [List.mem_singleton.mp hb] at ho ⊢
      have e : o = oJ := Option.some.inj (ho.symm.trans hoJ)
      rw [e]
      exact (y7.ob (h7.objs.size, oJ) (by simp)).1
  · rintro s' ⟨m, cm, B, y, hB, hmB, hms, hmm, hmd, hme, hmt, to, hmo⟩
    rw [signs_len ho3', List.take_length] at y
    have hbl2 := hbl 2 (Nat.le_refl _)
    rw [List.take_of_length_le hsl] at hbl2
    have hbk2 := hbk (signs (d % 3)).length
    rw [List.take_length] at hbk2
    have hbe : (signs (d % 3)).foldl (fun b sg => addT b (M.filterMap (madeF (d % 3) sg))) [] = besideT M (d % 3) := rfl
    rw [hbe] at y hbl2 hbk2
    have hf1 : firstT T d = if d < 3 then S else M := by rw [firstT, hM, hS]
    have hf2 : secondT T d = if d < 3 then M else S := by rw [secondT, hM, hS]
    have hk1 : Keys (RowN 50) (firstT T d) := by rw [hf1]; split <;> assumption
    have hk2 : Keys (RowN 50) (secondT T d) := by rw [hf2]; split <;> assumption
    have hl1 : (firstT T d).length ≤ 200 := by rw [hf1]; split <;> assumption
    have hl2 : (secondT T d).length ≤ 200 := by rw [hf2]; split <;> assumption
    refine wpAny_execs_cons (Assign_Tuple ?_)
    refine wpAny_mono (?_ : wpAny _ _ _ (fun v s9 => ∃ U D1 D2, v = .ref U ∧ s9.heap.IsTuple U #[.ref D1, .ref D2] ∧ DSt prog w s L (cellsFrom (L + 1) (scopeOf 13).names []) m cm [(B, besideT M (d % 3)), (D1, firstT T d), (D2, secondT T d)] [] s9) No _) (fun v s9 h9 => ?_) fun _ _ x => x
    · refine wpAny_IfExp ?_
      refine wpAny_isTrue_Compare1 ?_
      refine nm y.ns hmd ?_
      refine wpAny_Constant_int ?_
      refine P.lt_int ?_
      refine wpAny_truthy_bool ?_
      by_cases hd3 : d < 3
      · rw [hf1, hf2, if_pos hd3, if_pos hd3, decide_eq_true (by omega), if_pos rfl]
        refine wpAny_Tuple ?_
        refine args_cons (nm (y.toks _).ns hms ?_)
        refine args_cons (nm (y.toks _).ns hmm ?_)
        refine args_nil ?_
        refine ⟨by show 2 ≤ sizeLine; decide, _, D3, D4, rfl, ⟨_, Heap.get?_push_size _ rfl, rfl, _, rfl⟩, ?_⟩
        refine DSt.tabsSub ((y.grow (fun b o e => Heap.get?_push_of_some _ e))) (fun p hp => ?_) fun p hp => nomatch hp
        simp only [List.mem_cons, List.not_mem_nil, or_false] at hp ⊢
        rcases hp with h | h | h
        · exact .inl h
        · exact .inr (.inr h)
        · exact .inr (.inl h)
      · rw [hf1, hf2, if_neg hd3, if_neg hd3, decide_eq_false (by omega), if_neg (by decide)]
        refine wpAny_Tuple ?_
        refine args_cons (nm (y.toks _).ns hmm ?_)
        refine args_cons (nm (y.toks _).ns hms ?_)
        refine args_nil ?_
        refine ⟨by show 2 ≤ sizeLine; decide, _, D4, D3, rfl, ⟨_, Heap.get?_push_size _ rfl, rfl, _, rfl⟩, ?_⟩
        exact y.grow (fun b o e => Heap.get?_push_of_some _ e)
    obtain ⟨U, D1, D2, rfl, hU, y9⟩ := h9
    refine kcp_assign (env := envOfC "_law_done" (scopeOf 13) L a cdv) hh hU rfl rfl rfl y9.ns fun h10 tk10 hn10 hk10 => ?_
    have y10 := y9.turned (tk := tk10) hk10 hn10
    -- once
    refine wpAny_execs_cons (wpAny_Assign_Name ?_)
    refine y10.callAdd W (rm'.mono (by omega)) ?_
    refine y10.callSent W (rm'.mono (by omega)) ?_
    refine nm y10.ns (show _ = some (Value.ref D2) from rfl) (nm y10.ns (show _ = some (Value.str e te) from hme) ?_)
    refine ⟨D2, e, te, _, _, rfl, rfl, .tail _ (.tail _ (.head _)), he, rowsOk hk2 (by decide), y10, by omega, fun D11 s11 hD11 y11 => ?_⟩
    refine nm y11.ns (show _ = some (Value.ref B) from hmB) ?_
    have hls2 : (sentT (secondT T d)).length ≤ 200 := by simpa [sentT] using hl2
    refine ⟨D11, B, _, _, _, rfl, rfl, .head _, .tail _ (.head _), y11, by omega, fun D12 s12 hD12 y12 => ?_⟩
    have hon : addT (sentT (secondT T d)) (besideT M (d % 3)) = onceT T d := by rw [onceT, hM]
    have hlo := addT_length (sentT (secondT T d)) (besideT M (d % 3))
    have hko : Keys (RowN 51) (addT (sentT (secondT T d)) (besideT M (d % 3))) := (hk2.sent fun k hk => hk.dot).addT (hbk2.mono fun k hk => hk.up (by decide))
    rw [hon] at y12 hlo hko
    refine y12.store (env := envOfC "_law_done" (scopeOf 13) L a cdv) rfl rfl fun s13 y13 => ?_
    -- total
    refine wpAny_execs_cons (wpAny_Assign_Name ?_)
    refine y13.callAdd W (rm'.mono (by omega)) ?_
    refine nm y13.ns (show _ = some (Value.ref D1) from rfl) ?_
    refine y13.callSent W (rm'.mono (by omega)) ?_
    refine nm y13.ns (show _ = some (Value.ref D12) from rfl) (nm y13.ns (show _ = some (Value.str e te) from hme) ?_)
    refine ⟨D12, e, te, _, _, rfl, rfl, .head _, he, rowsOk hko (by decide), y13, by omega, fun D14 s14 hD14 y14 => ?_⟩
    have hlo2 : (sentT (onceT T d)).length ≤ 600 := by simp [sentT]; omega
    refine ⟨D1, D14, _, _, _, rfl, rfl, .tail _ (.tail _ (.tail _ (.tail _ (.head _)))), .head _, y14, by omega, fun D15 s15 hD15 y15 => ?_⟩
    have hlt := addT_length (firstT T d) (sentT (onceT T d))
    refine y15.store (env := envOfC "_law_done" (scopeOf 13) L a cdv) rfl rfl fun s16 y16 => ?_
    -- return
    refine wpAny_execs_cons (wpAny_Return_some ?_)
    have hDt := y16.tabs (D15, addT (firstT T d) (sentT (onceT T d))) (.head _)
    refine wp_DictComp_items (d := D15) (T := addT (firstT T d) (sentT (onceT T d))) (g := nzF) (cl := []) hh hDt.2.2.2 hDt.1 (by omega) (apart_nz _) (by rfl) (by decide) rfl (by decide) rfl rfl (by decide) rfl rfl (fun Q' q => nm y16.ns (show _ = some (Value.ref D15) from rfl) q) ?_ ?_
    · intro C p t1 t2 s₃ m₃ hp hn₃ hka hkb hkp
      refine wpAny_tests_one ?_
      refine isTrue_plain ?_
      refine nm hn₃ hkb ?_
      refine P.truthy_int ?_
      refine ⟨keeps_refl _, ?_⟩
      by_cases hc : p.2 = 0
      · rw [show (p.2 != 0) = false from by simp [hc], if_neg (by decide)]
        rw [nzF, if_pos hc]
      · rw [show (p.2 != 0) = true from by simp [hc], if_pos rfl]
        refine nm hn₃ hka ⟨keeps_refl _, ?_⟩
        refine nm hn₃ hkb ?_
        exact ⟨keeps_refl _, p, _, _, by rw [nzF, if_neg hc], rfl, rfl⟩
    · intro D17 h17 tk17 hD17 hk17 hT17
      obtain ⟨H16, tk16, rfl⟩ := y16.ic.toInCall.same
      exact h D17 h17 tk17 (Nat.le_of_lt (Nat.lt_of_lt_of_le (hL ▸ y16.lt) hD17)) (fun b o e => hk17 b o (y16.keep b o e)) hT17
end
end Mine
end
section -- E2
namespace Mine
open PySem PySem.W PyProof.Rows
set_option maxRecDepth 100000

theorem firstT_keys {n : Nat} {T : Tb} {d : Nat} (hT : Keys (RowN n) T) : Keys (RowN n) (firstT T d) ∧ Keys (RowN n) (secondT T d) := by
  have hTm : Keys (RowN n) (T.filterMap (movedF (d % 3))) := hT.filterMap fun p q hp e => by
    unfold movedF at e; split at e <;> cases e; exact hp
  have hTs : Keys (RowN n) (T.filterMap (stillF (d % 3))) := hT.filterMap fun p q hp e => by
    unfold stillF at e; split at e <;> cases e; exact hp
  unfold firstT secondT
  constructor <;> split <;> assumption
theorem besideT_keys {n : Nat} {M : Tb} {o : Nat} (hM : Keys (RowN n) M) (ho : o < 3) : Keys (RowN n) (besideT M o) := by
  have gen : ∀ (l : List Nat) (b : Tb), Keys (RowN n) b → Keys (RowN n) (l.foldl (fun b sg => addT b (M.filterMap (madeF o sg))) b) := by
    intro l
    induction l with
    | nil => intro b hb; exact hb
    | cons c l ih => intro b hb; exact ih _ (hb.addT (hM.filterMap fun p q hp e => by
        unfold madeF at e; split at e <;> cases e; exact hp.reSign ho))
  exact gen _ _ .nil
theorem doneT_keys {n : Nat} {T : Tb} {d : Nat} (hT : Keys (RowN n) T) : Keys (RowN (n + 2)) (doneT T d) := by
  have h1 := firstT_keys (d := d) hT
  have hTm : Keys (RowN n) (T.filterMap (movedF (d % 3))) := hT.filterMap fun p q hp e => by
    unfold movedF at e; split at e <;> cases e; exact hp
  have h2 : Keys (RowN (n + 1)) (onceT T d) := (h1.2.sent fun k hk => hk.dot).addT ((besideT_keys hTm (Nat.mod_lt _ (by decide))).mono fun k hk => hk.up (by omega))
  refine ((h1.1.mono fun k hk => hk.up (by omega)).addT (h2.sent fun k hk => hk.dot)).filterMap fun p q hp e => ?_
  unfold nzF at e; split at e <;> cases e; exact hp

theorem list_lt {h : Heap} {a : Addr} {items : Array Value} (hl : h.IsList a items) : a < h.objs.size := by
  obtain ⟨o, ho, _⟩ := hl; exact Heap.lt_size ho

def ledT (T : Tb) (ds : List Nat) : Tb := ds.foldl doneT T
theorem ledT_keys : ∀ (ds : List Nat) {n : Nat} {T : Tb}, Keys (RowN n) T → Keys (RowN (n + 2 * ds.length)) (ledT T ds)
  | [], _, _, h => h
  | d :: ds, n, T, h => by
    have := ledT_keys ds (doneT_keys (d := d) h)
    rw [show n + 2 * (d :: ds).length = n + 2 + 2 * ds.length from by simp; omega]
    exact this

section
variable {prog : Program} {w : World} {A : Around} {E : Value → Shared → Prop} {s : Shared} {mg mb : Str → Option Value}

set_option maxHeartbeats 8000000 in
theorem call_led {a t wd : Addr} {cdv : Value} {T : Tb} {ds : List Nat} {vs : List Value} {n : Nat} {e : Str} {te : Tok} {R : Result → Shared → Prop} (F : FnAt s.heap a "_law_led" 14 cdv) (W : Wd mg mb s.heap) (rm : Rm A 7)
    (ht : Tab prog w s.heap t T) (hw : s.heap.IsList wd vs.toArray) (hv : IntsAre vs (ds.map fun d => ((d : Nat) : Int))) (hd : ∀ d ∈ ds, d < 6) (he : EndOk e.cps.toList) (hT : Keys (RowN n) T) (hn : n + 2 * ds.length ≤ 52) (htS : (t == sysModules) = false)
    (h : ∀ D h' tk, (ds = [] ∨ s.heap.objs.size ≤ D) → (D == sysModules) = false → Kp s.heap h' → Tab prog w h' D (ledT T ds) → R (.ok (.ret (.ref D))) { s with heap := h', toks := tk }) :
    codeAny (model prog w) A (.call (.ref a) ⟨[.ref t, .ref wd, .str e te], []⟩) R s := by
  refine wp_enterC (binds := [("table", .ref t), ("word", .ref wd), ("end", .str e te)]) F W rm.room (fun _ _ _ _ => by rfl) (by rfl) fun s₁ x => ?_
  generalize hL : s.heap.objs.size = L at x ⊢
  have rm' := rm.deeper (envOfC "_law_led" (scopeOf 14) L a cdv)
  generalize hA : A.deeper (envOfC "_law_led" (scopeOf 14) L a cdv) = A' at rm' ⊢
  have hh : A'.handled = none := rm'.hh
  have hcs : cellsFrom (L + 1) (scopeOf 14).names [] = [] := by rfl
  have htL : t ≠ L := hL ▸ Nat.ne_of_lt ht.lt
  have x0 : DSt prog w s L (cellsFrom (L + 1) (scopeOf 14).names []) _ _ [(t, T)] [] s₁ := ⟨x, (fun p hp => by
    rw [List.mem_singleton.mp hp]
    exact ⟨ht.keeps x.toInCall.keep, htL, (fun n c hc => absurd hc (by rw [hcs]; simp)), htS⟩), (fun p hp => nomatch hp)⟩
  obtain ⟨a13, c13, hm13, F13⟩ := W.g13
  obtain ⟨o13, doc, pm, ct, an, ho13, hd13, hc13⟩ := id F13
  have hlen : ds.length = vs.length := by have := hv.length; simpa using this.symm
  refine wpAny_execs_cons (wpAny_For ?_)
  refine nm x0.ns (show _ = some (Value.ref wd) from rfl) ?_
  have hw1 : s₁.heap.IsList wd vs.toArray := hw.at fun o q => x0.keep wd o q
  refine wpAny_pyIter_list hw1 ?_
  have hwI : wd ≠ s₁.heap.objs.size := Nat.ne_of_lt (list_lt hw1)
  have hwL : wd ≠ L := hL ▸ Nat.ne_of_lt (list_lt hw)
  have hI7 : s₁.heap.objs.size ≠ L := Nat.ne_of_gt x0.lt
  have hI0 : s.heap.get? s₁.heap.objs.size = none := fresh_none (by rw [hL]; exact Nat.le_of_lt x0.lt)
  have htI : t ≠ s₁.heap.objs.size := Nat.ne_of_lt (x0.tabLt (p := (t, T)) (.head _))
  refine for_walk (Walks.list hh s₁.heap.objs.size wd hwI vs.toArray) (fun v => by rfl) (fun i s' => ∃ m cm D, DSt prog w s L (cellsFrom (L + 1) (scopeOf 14).names []) m cm [(D, ledT T (ds.take i))] [] s' ∧ D ≠ s₁.heap.objs.size ∧
    m (Str.ofString "table") = some (.ref D) ∧ m (Str.ofString "end") = some (.str e te) ∧ (i = 0 ∨ s.heap.objs.size ≤ D)) ?_ ⟨_, _, t, (x0.grow (tk := s₁.toks) fun b o q => Heap.get?_push_of_some _ q), htI, rfl, rfl, .inl rfl⟩ ?_ ?_ ?_
  · exact ⟨⟨_, Heap.get?_push_size _ rfl, rfl, rfl⟩, hw1.at fun o q => Heap.get?_push_of_some _ q⟩
  · rintro i s' h' tk ⟨m, cm, D, y, hDI, hm⟩ hk
    refine ⟨m, cm, D, y.other (I := s₁.heap.objs.size) (fun b o hb q => hk b o (by simpa using hb) q) hI0 hI7 (fun n c hc => absurd hc (by rw [hcs]; simp)) ?_ (fun p hp => nomatch hp), hDI, hm⟩
    intro p hp
    rw [List.mem_singleton.mp hp]; exact hDI
  · rintro i v s₂ hi hvi ⟨m, cm, D, y, hDI, hmt, hme, hDD⟩ ⟨⟨oJ, hoJ, hJ2⟩, hwl⟩
    have hvi' : vs[i]? = some v := by simpa using hvi
    obtain ⟨d', td, rfl, hd'⟩ := hv.at i v hvi'
    obtain ⟨d, hdi, rfl⟩ : ∃ d : Nat, ds[i]? = some d ∧ d' = d := by
      rw [List.getElem?_map] at hd'
      cases hq : ds[i]? with
      | none => rw [hq] at hd'; cases hd'
      | some d => rw [hq] at hd'; exact ⟨d, rfl, (Option.some.inj hd').symm⟩
    have yw := y.watch hoJ hI7 fun n c hc => absurd hc (by rw [hcs]; simp)
    refine wpAny_assign_Name ?_
    refine yw.store (env := envOfC "_law_led" (scopeOf 14) L a cdv) rfl rfl fun s₃ y3 => ?_
    refine wpAny_execs_cons (wpAny_Assign_Name ?_)
    refine Call_ (ng (W.keeps y3.keep) hm13 ?_)
    refine callWith_def hd13 ?_
    refine args_cons ?_
    refine nm y3.ns (show _ = some (Value.ref D) from hmt) ?_
    refine args_cons ?_
    refine nm y3.ns (show _ = some (Value.int d td) from rfl) ?_
    refine args_cons ?_
    refine nm y3.ns (show _ = some (Value.str e te) from hme) ?_
    refine args_nil ?_
    refine ⟨y3.keep _ _ ho13, wpAny_call ?_⟩
    have hDt := y3.tabs (D, ledT T (ds.take i)) (.head _)
    have hil : i < ds.length := by rw [hlen]; simpa using hi
    refine call_done (F13.keeps y3.keep) (W.keeps y3.keep) rm' hDt.1 he ?_ hDt.2.2.2 (hd d (List.mem_of_getElem? hdi)) fun D' h' tk hD' hk' hT' => ?_
    · have h1 := ledT_keys (ds.take i) hT
      have h2 : (ds.take i).length ≤ i := List.length_take_le ..
      exact h1.mono fun k hk => hk.up (by omega)
    have y4 := y3.add (tk := tk) W hD' hT' hk'
    have hDI' : D' ≠ s₁.heap.objs.size := Nat.ne_of_gt (Nat.lt_of_lt_of_le (Heap.lt_size (y3.ob (s₁.heap.objs.size, oJ) (by simp)).1) hD')
    refine y4.store (env := envOfC "_law_led" (scopeOf 14) L a cdv) rfl rfl fun s5 y5 => ?_
    refine wpAny_execs_nil ?_
    refine ⟨rfl, ⟨_, _, D', y5.tabsSub ?_ (fun p hp => nomatch hp), hDI', rfl, hme, .inr ?_⟩, ?_⟩
    · intro p hp
      rw [take_next hdi, ledT, List.foldl_append] at hp
      rw [List.mem_singleton.mp hp]
      exact .head _
    · exact Nat.le_of_lt (Nat.lt_of_lt_of_le (hL ▸ y3.lt) hD')
    · intro b hb o ho
      simp only [List.mem_cons, List.not_mem_nil, or_false] at hb
      rcases hb with rfl | rfl
      · have q : o = oJ := Option.some.inj (ho.symm.trans hoJ)
        rw [q]
        exact (y5.ob (s₁.heap.objs.size, oJ) (by simp)).1
      · obtain ⟨ow, how, _⟩ := id hw
        have q : o = ow := Option.some.inj (ho.symm.trans (y.keep _ _ how))
        rw [q]
        exact y5.keep _ _ how
  · rintro s' ⟨m, cm, D, y, hDI, hmt, hme, hDD⟩
    refine wpAny_execs_cons (wpAny_Return_some ?_)
    refine nm y.ns hmt ?_
    have hDt := y.tabs _ (.head _)
    obtain ⟨H16, tk16, rfl⟩ := y.ic.toInCall.same
    have hDD' : ds = [] ∨ s.heap.objs.size ≤ D := by
      rcases hDD with e | e
      · left
        have e2 : vs.toArray.size = ds.length := by simp [hlen]
        exact List.eq_nil_of_length_eq_zero (e2 ▸ e)
      · exact .inr e
    refine h D H16 tk16 hDD' hDt.2.2.2 y.keep ?_
    have := hDt.1
    rw [show (vs.toArray.size) = ds.length from by simp [hlen], List.take_length] at this
    exact this
end
end Mine
end
section -- E3
namespace Mine
open PySem PySem.W PyProof.Rows
set_option maxRecDepth 100000

abbrev tests (ifs : List PySem.Expr) (env : Env) : Sem Bool :=
  forIn ifs true fun c r => if r = true then do let ok ← isTrue c env (eval c env); pure (ForInStep.yield ok) else pure (ForInStep.yield r)

section
variable {prog : Program} {w : World} {A : Around} {E : Value → Shared → Prop} {R : Result → Shared → Prop} {s : Shared}

theorem lc_loop {elt target iter : PySem.Expr} {ifs : List PySem.Expr} {scope : Scope} {pos : Pos} {it : Value} {D : Addr} {env : Env} (I : Nat → Shared → Prop)
    (turn : ∀ n s, I n s → wpAny (model prog w) A (pyNext it) (fun r s₁ => match r with
      | none => R (.ok .next) s₁
      | some v => wpAny (model prog w) A (letOwnedTupleGo target it v) (fun _ s₀ => wpAny (model prog w) A (assign target env v) (fun _ s₂ =>
          wpAny (model prog w) A (tests ifs env) (fun ok s₃ =>
            if ok = true then wpAny (model prog w) A (eval elt env) (fun y s₄ =>
              wpAny (model prog w) A (call (.builtin "list.append") [.ref D, y]) (fun _ s₆ => ∃ m, m < n ∧ I m s₆) No s₄) No s₃
            else ∃ m, m < n ∧ I m s₃) No s₂) No s₀) No s₁) No s)
    (n : Nat) (h : I n s) :
    codeAny (model prog w) A (.compLoop (.ListComp elt [⟨target, iter, ifs, 0⟩] scope pos) 0 it (.ref D) env) R s := by
  refine codeAny_loop rfl I (fun n s hI => ?_) n h
  show wpAny _ A ((compTurn (.ListComp elt [⟨target, iter, ifs, 0⟩] scope pos) 0 it (.ref D) env).onRaise (fun x => do noteFrame x env; theTreesLotGoes x)) _ _ s
  refine wpAny_noted (wp_no ?_)
  rw [compTurn_list]
  refine wpAny_bind (wpAny_standAt (wpAny_bind (wpAny_mono (turn n s hI) (fun r s₁ h₁ => ?_) fun _ _ h' => h')))
  cases r with
  | none => exact wpAny_pure h₁
  | some v =>
    refine wpAny_bind (wpAny_mono h₁ (fun _ s₀ h₀ => ?_) fun _ _ h' => h')
    refine wpAny_bind (wpAny_mono h₀ (fun _ s₂ h₂ => wpAny_bind (wpAny_mono h₂ (fun ok s₃ h₃ => ?_) fun _ _ h' => h')) fun _ _ h' => h')
    cases ok with
    | false => exact wpAny_pure ⟨rfl, h₃⟩
    | true =>
      exact wpAny_bind (wpAny_bind (wpAny_mono h₃ (fun x s₄ h₄ => wpAny_bind (wpAny_mono h₄ (fun _ s₅ h₅ => wpAny_pure (wpAny_pure ⟨rfl, h₅⟩)) fun _ _ h' => h')) fun _ _ h' => h'))

/-- a list's turns over plain items, by what holds between them -/
theorem lc_walk {elt target iter : PySem.Expr} {ifs : List PySem.Expr} {scope : Scope} {pos : Pos} {I D : Addr} {env : Env} {fp wr : List Addr} {n : Nat} {P : Nat → Value → Prop} {St : Nat → Heap → Prop} (W : Walks prog w A I fp wr n P St)
    (hgo : ∀ v, letOwnedTupleGo target (.ref I) v = pure ()) (Inv : Nat → List Value → Shared → Prop) (hst : St 0 s.heap) (hD : s.heap.IsList D #[]) (h0 : Inv 0 [] s) (hDf : D ∉ fp)
    (hnext : ∀ i ys s' h' tk, Inv i ys s' → (∀ b o, b ∉ wr → s'.heap.get? b = some o → h'.get? b = some o) → Inv i ys { s' with heap := h', toks := tk })
    (happ : ∀ i ys s' h', Inv i ys s' → Heap.SameBut D s'.heap h' → Inv i ys { s' with heap := h' })
    (step : ∀ i ys v s₁, i < n → P i v → Inv i ys s₁ → wpAny (model prog w) A (assign target env v) (fun _ s₂ => wpAny (model prog w) A (tests ifs env) (fun ok s₃ =>
      if ok = true then wpAny (model prog w) A (eval elt env) (fun y s₄ => Inv (i + 1) (ys ++ [y]) s₄ ∧ ∀ b ∈ D :: fp, ∀ o, s₁.heap.get? b = some o → s₄.heap.get? b = some o) No s₃
      else Inv (i + 1) ys s₃ ∧ ∀ b ∈ D :: fp, ∀ o, s₁.heap.get? b = some o → s₃.heap.get? b = some o) No s₂) No s₁)
    (hsz : ∀ i ys s', Inv i ys s' → ys.length ≤ 100000)
    (hR : ∀ s' ys, Inv n ys s' → s'.heap.IsList D ys.toArray → R (.ok .next) s') : codeAny (model prog w) A (.compLoop (.ListComp elt [⟨target, iter, ifs, 0⟩] scope pos) 0 (.ref I) (.ref D) env) R s := by
  have hDw : D ∉ wr := fun h => hDf (W.sub _ h)
  refine lc_loop (fun k s' => ∃ i ys, St i s'.heap ∧ Inv i ys s' ∧ s'.heap.IsList D ys.toArray ∧ i ≤ n ∧ k = n + 1 - i) ?_ (n + 1) ⟨0, [], hst, h0, hD, Nat.zero_le _, rfl⟩
  rintro k s' ⟨i, ys, hst', hI, hl, hi, rfl⟩
  by_cases hlt : i < n
  · refine W.item i _ _ _ hlt hst' fun v h₁ tk₁ hPv hst₁ hk₁ => ?_
    dsimp only
    refine wpAny_of_eq (hgo v) ?_
    have hl₁ : h₁.IsList D ys.toArray := hl.at fun o e => hk₁ D o hDw e
    refine wpAny_mono (step i ys v _ hlt hPv (hnext _ _ _ _ _ hI hk₁)) (fun _ s₂ h₂ => wpAny_mono h₂ (fun ok s₃ h₃ => ?_) fun _ _ x => x) fun _ _ x => x
    cases ok with
    | false =>
      simp only [Bool.false_eq_true, if_false] at h₃ ⊢
      exact ⟨n + 1 - (i + 1), by omega, i + 1, ys, W.frame _ _ _ hst₁ (fun b hb => h₃.2 b (.tail _ hb)), h₃.1, hl₁.at fun o e => h₃.2 D (.head _) o e, hlt, rfl⟩
    | true =>
      simp only [if_true] at h₃ ⊢
      refine wpAny_mono h₃ (fun y s₄ h₄ => ?_) fun _ _ x => x
      have hl₄ : s₄.heap.IsList D ys.toArray := hl₁.at fun o e => h₄.2 D (.head _) o e
      have hys : ys.toArray.size ≤ sizeLine := by
        have e1 := hsz _ _ _ hI
        have e3 : (100000 : Nat) ≤ sizeLine := by decide
        simp; omega
      refine wpAny_list_append (hsz := hys) hl₄ fun h₅ hl₅ hs₅ => ?_
      refine ⟨n + 1 - (i + 1), by omega, i + 1, ys ++ [y], W.frame _ _ _ hst₁ (fun b hb o e => hs₅.extBut b o (fun q => hDf (q ▸ hb)) (h₄.2 b (.tail _ hb) o e)), happ _ _ _ _ h₄.1 hs₅, ?_, hlt, rfl⟩
      simpa using hl₅
  · have hin : i = n := by omega
    subst hin
    refine W.done _ _ _ hst' fun h₁ tk₁ hk₁ => ?_
    exact hR _ ys (hnext _ _ _ _ _ hI hk₁) (hl.at fun o e => hk₁ D o hDw e)

/-- .. over pairs -/
theorem lc_walkU {elt target iter : PySem.Expr} {ifs : List PySem.Expr} {scope : Scope} {pos : Pos} {I D : Addr} {env : Env} {fp wr : List Addr} {n : Nat} {Pt : Nat → Array Value → Prop} {St : Nat → Heap → Prop} {Mid : Nat → Addr → Heap → Prop}
    {elts : List PySem.Expr} {kk : Nat} {tp : Pos} (W : WalksU prog w A I fp wr n Pt St Mid) (htg : target = .Tuple elts kk tp)
    (Inv : Nat → List Value → Shared → Prop) (hst : St 0 s.heap) (hD : s.heap.IsList D #[]) (h0 : Inv 0 [] s) (hDf : D ∉ fp)
    (hnext : ∀ i ys s' h' tk, Inv i ys s' → (∀ b o, b ∉ wr → s'.heap.get? b = some o → h'.get? b = some o) → Inv i ys { s' with heap := h', toks := tk })
    (happ : ∀ i ys s' h', Inv i ys s' → Heap.SameBut D s'.heap h' → Inv i ys { s' with heap := h' })
    (step : ∀ i ys U vals s₁, i < n → Pt i vals → s₁.heap.IsTuple U vals → Inv i ys s₁ → wpAny (model prog w) A (assign target env (.ref U)) (fun _ s₂ => wpAny (model prog w) A (tests ifs env) (fun ok s₃ =>
      if ok = true then wpAny (model prog w) A (eval elt env) (fun y s₄ => Inv (i + 1) (ys ++ [y]) s₄ ∧ ∀ b ∈ D :: fp, ∀ o, s₁.heap.get? b = some o → s₄.heap.get? b = some o) No s₃
      else Inv (i + 1) ys s₃ ∧ ∀ b ∈ D :: fp, ∀ o, s₁.heap.get? b = some o → s₃.heap.get? b = some o) No s₂) No s₁)
    (hsz : ∀ i ys s', Inv i ys s' → ys.length ≤ 100000)
    (hR : ∀ s' ys, Inv n ys s' → s'.heap.IsList D ys.toArray → R (.ok .next) s') : codeAny (model prog w) A (.compLoop (.ListComp elt [⟨target, iter, ifs, 0⟩] scope pos) 0 (.ref I) (.ref D) env) R s := by
  subst htg
  have hDw : D ∉ wr := fun h => hDf (W.sub _ h)
  refine lc_loop (fun k s' => ∃ i ys, St i s'.heap ∧ Inv i ys s' ∧ s'.heap.IsList D ys.toArray ∧ i ≤ n ∧ k = n + 1 - i) ?_ (n + 1) ⟨0, [], hst, h0, hD, Nat.zero_le _, rfl⟩
  rintro k s' ⟨i, ys, hst', hI, hl, hi, rfl⟩
  by_cases hlt : i < n
  · refine W.item i _ _ _ hlt hst' fun U vals h₁ tk₁ hPv hU hM hk₁ => ?_
    have hUw := W.apart i U _ hM
    dsimp only
    refine W.go _ kk tp i U _ _ _ hM fun h₂ hst₂ hk₂ => ?_
    have hU₂ : h₂.IsTuple U vals := hU.at fun o e => hk₂ U o hUw e
    have up₂ : ∀ b o, b ∉ wr → s'.heap.get? b = some o → h₂.get? b = some o := fun b o hb e => hk₂ b o hb (hk₁ b o hb e)
    have hl₂ : h₂.IsList D ys.toArray := hl.at fun o e => up₂ D o hDw e
    refine wpAny_mono (step i ys U vals _ hlt hPv hU₂ (hnext i ys s' h₂ _ hI up₂)) (fun _ s₂ h₂ => wpAny_mono h₂ (fun ok s₃ h₃ => ?_) fun _ _ x => x) fun _ _ x => x
    cases ok with
    | false =>
      simp only [Bool.false_eq_true, if_false] at h₃ ⊢
      exact ⟨n + 1 - (i + 1), by omega, i + 1, ys, W.frame _ _ _ hst₂ (fun b hb => h₃.2 b (.tail _ hb)), h₃.1, hl₂.at fun o e => h₃.2 D (.head _) o e, hlt, rfl⟩
    | true =>
      simp only [if_true] at h₃ ⊢
      refine wpAny_mono h₃ (fun y s₄ h₄ => ?_) fun _ _ x => x
      have hl₄ : s₄.heap.IsList D ys.toArray := hl₂.at fun o e => h₄.2 D (.head _) o e
      have hys : ys.toArray.size ≤ sizeLine := by
        have e1 := hsz _ _ _ hI
        have e3 : (100000 : Nat) ≤ sizeLine := by decide
        simp; omega
      refine wpAny_list_append (hsz := hys) hl₄ fun h₅ hl₅ hs₅ => ?_
      refine ⟨n + 1 - (i + 1), by omega, i + 1, ys ++ [y], W.frame _ _ _ hst₂ (fun b hb o e => hs₅.extBut b o (fun q => hDf (q ▸ hb)) (h₄.2 b (.tail _ hb) o e)), happ _ _ _ _ h₄.1 hs₅, ?_, hlt, rfl⟩
      simpa using hl₅
  · have hin : i = n := by omega
    subst hin
    refine W.done _ _ _ hst' fun h₁ tk₁ hk₁ => ?_
    exact hR _ ys (hnext _ _ _ _ _ hI hk₁) (hl.at fun o e => hk₁ D o hDw e)

/-- a comprehension's frame, cells and all -/
theorem wp_compEnv {scope : Scope} {cl : List (Str × Addr)} {env : Env} {Q : Env → Shared → Prop}
    (h : ∀ h', h'.Ns s.heap.objs.size (fun _ => none) → Kp s.heap h' →
      (∀ n c, (n, c) ∈ cellsFrom (s.heap.objs.size + 1) scope.names [] → h'.IsCell c none ∧ s.heap.objs.size < c) →
      Q { compEnvC scope (cellsFrom (s.heap.objs.size + 1) scope.names cl) s.heap.objs.size env with scope := scope } { s with heap := h' }) :
    wpAny (model prog w) A (newFunctionEnv scope env.globals cl [] env.qual none .none (some env)) Q E s := by
  simp only [newFunctionEnv, Option.isSome_some, if_true]
  refine wpAny_bind (wpAny_alloc ?_)
  refine wpAny_bind (wpAny_layCells _ (fun name kind cells => by cases hkc : kind == NameKind.cell <;> simp [hkc]) _ _ _ _ ?_)
  have ok := cellsFrom_ok scope.names (s.heap.push { cls := .type "dict", data := .dict #[] }) (s.heap.objs.size + 1) [] ⟨fun _ _ hm => (nomatch hm), List.Pairwise.nil⟩ (by rw [Heap.size_push]; exact Nat.le_refl _)
  rw [Heap.size_push] at ok
  rw [show ({ s with heap := s.heap.push { cls := .type "dict", data := .dict #[] } } : Shared).heap.objs.size = s.heap.objs.size + 1 from Heap.size_push ..]
  simp only [List.forIn_nil]
  refine wpAny_bind (wpAny_pure (wpAny_pure ?_))
  refine h _ ((Heap.Ns.new s.heap (.type "dict")).keeps (pushCells_keeps _ _)) (fun b o e => pushCells_keeps _ _ b o (Heap.get?_push_of_some _ e)) (fun n c hm => ⟨(ok.empty n c hm).1, (ok.empty n c hm).2⟩)
end
end Mine
end
section -- E4
namespace Mine
open PySem PySem.W PyProof.Rows
set_option maxRecDepth 100000

section
variable {prog : Program} {w : World} {A : Around} {E : Value → Shared → Prop} {R : Result → Shared → Prop} {s : Shared}

/-- a comprehension of a list, by its loop -/
theorem wp_LC {env : Env} {elt target iter : PySem.Expr} {ifs : List PySem.Expr} {scope : Scope} {cl : List (Str × Addr)} {pos : Pos} {Q : Value → Shared → Prop}
    (hclos : closureFor scope env = pure cl) (hkind : scope.kind = .function) (hnames : ∀ z ∈ scope.names, z.2 = .local → scope.names.lookup z.1 = some .local)
    (h : wpAny (model prog w) A (eval iter env) (fun xv s₁ => wpAny (model prog w) A (pyIter xv) (fun it s₂ => ∃ I, ∃ St : Heap → Prop, it = .ref I ∧ St s₂.heap ∧ (∀ h h', St h → Kp h h' → St h') ∧
      (∀ (s' : Shared) Q' E', St s'.heap → Q' (.ref I) s' → wpAny (model prog w) A (pyIter (.ref I)) Q' E' s') ∧
      (∀ D C h', D = s₂.heap.objs.size → C = D + 1 → h'.Ns C (fun _ => none) → h'.IsList D #[] → Kp s₂.heap h' → (∀ n c, (n, c) ∈ cellsFrom (C + 1) scope.names [] → h'.IsCell c none ∧ C < c) →
        codeAny (model prog w) A (.compLoop (.ListComp elt [⟨target, iter, ifs, 0⟩] scope pos) 0 (.ref I) (.ref D) (compEnvC scope (cellsFrom (C + 1) scope.names cl) C env))
          (fun r s' => r = .ok .next ∧ (∃ m, s'.heap.Ns C m) ∧ ∀ h'', Heap.SameBut C s'.heap h'' → Q (.ref D) { s' with heap := h'' }) { s₂ with heap := h' })) E s₁) E s)
    (hs : ∀ x, foldedSetIterable iter env x = pure x := by intro _; rfl) :
    wpAny (model prog w) A (eval (.ListComp elt [⟨target, iter, ifs, 0⟩] scope pos) env) Q E s := by
  rw [eval_ListComp]
  refine wpAny_comprehension_free (use := none) rfl hs hclos hkind hnames (wpAny_mono h (fun xv s₁ h₁ => wpAny_mono h₁ (fun it s₂ h₂ => ?_) fun _ _ e => e) fun _ _ e => e)
  obtain ⟨I, St, rfl, hst, hfr, hself, hl⟩ := h₂
  refine wpAny_newObj_type (wp_compEnv fun h' hns hk hc => ?_)
  dsimp only at hns hk hc ⊢
  have hC : (s₂.heap.push { cls := .type "list", dict := none, data := .seq ([] : List Value).toArray }).objs.size = s₂.heap.objs.size + 1 := Heap.size_push ..
  rw [hC] at hns hc ⊢
  have hlist : h'.IsList s₂.heap.objs.size #[] := ⟨_, hk _ _ (Heap.get?_push_size _ rfl), rfl, _, rfl⟩
  have hk' : Kp s₂.heap h' := fun b o e => hk _ _ (Heap.get?_push_of_some _ e)
  have loop := hl _ _ h' rfl rfl hns hlist hk' hc
  have done : codeAny (model prog w) A (.compLoop (.ListComp elt [⟨target, iter, ifs, 0⟩] scope pos) 0 (.ref I) (.ref s₂.heap.objs.size) (compEnvC scope (cellsFrom (s₂.heap.objs.size + 1 + 1) scope.names cl) (s₂.heap.objs.size + 1) env))
      (compPost (model prog w) A E none Q (.ref s₂.heap.objs.size) (s₂.heap.objs.size + 1)) { s₂ with heap := h' } := codeAny_mono loop fun r s' hr => by
    obtain ⟨rfl, ⟨m, hm⟩, hq⟩ := hr
    exact ⟨m, hm, hq⟩
  exact codeAny_compStart_list done (hself _ _ _ (hfr _ _ hst hk') done)

/-- .. stored under a name -/
theorem wp_Assign_LC {env : Env} {elt target iter : PySem.Expr} {y : Str} {py : Pos} {ifs : List PySem.Expr} {scope : Scope} {cl : List (Str × Addr)} {pos spos : Pos} {Q : Flow → Shared → Prop}
    (hsw : swapsWith (.ListComp elt [⟨target, iter, ifs, 0⟩] scope pos) (some (.Name y py)) spos.line env = pure true)
    (hclos : closureFor scope env = pure cl) (hkind : scope.kind = .function) (hnames : ∀ z ∈ scope.names, z.2 = .local → scope.names.lookup z.1 = some .local)
    (h : wpAny (model prog w) A (eval iter env) (fun xv s₁ => wpAny (model prog w) A (pyIter xv) (fun it s₂ => ∃ I, ∃ St : Heap → Prop, it = .ref I ∧ St s₂.heap ∧ (∀ h h', St h → Kp h h' → St h') ∧
      (∀ (s' : Shared) Q' E', St s'.heap → Q' (.ref I) s' → wpAny (model prog w) A (pyIter (.ref I)) Q' E' s') ∧
      (∀ D C h', D = s₂.heap.objs.size → C = D + 1 → h'.Ns C (fun _ => none) → h'.IsList D #[] → Kp s₂.heap h' → (∀ n c, (n, c) ∈ cellsFrom (C + 1) scope.names [] → h'.IsCell c none ∧ C < c) →
        codeAny (model prog w) A (.compLoop (.ListComp elt [⟨target, iter, ifs, 0⟩] scope pos) 0 (.ref I) (.ref D) (compEnvC scope (cellsFrom (C + 1) scope.names cl) C env))
          (fun r s' => r = .ok .next ∧ wpAny (model prog w) A (storeName env y (.ref D)) (fun _ s'' => (∃ m, s''.heap.Ns C m) ∧ ∀ h'', Heap.SameBut C s''.heap h'' → Q .next { s'' with heap := h'' }) No s') { s₂ with heap := h' })) E s₁) E s)
    (hs : ∀ x, foldedSetIterable iter env x = pure x := by intro _; rfl) :
    wpAny (model prog w) A (exec (.Assign [.Name y py] (.ListComp elt [⟨target, iter, ifs, 0⟩] scope pos) spos) env) Q E s := by
  rw [exec_Assign_Name_used _ _ _ _ hsw]
  refine wpAny_bind (wpAny_standAt (wpAny_bind ?_))
  show wpAny _ A (do let _ ← comprehension (.ListComp elt [⟨target, iter, ifs, 0⟩] scope pos) scope env _ (newList []) false (eval iter env) (some (assign (.Name y py) env))) _ _ s
  refine wpAny_bind (wpAny_mono (wpAny_comprehension_free (use := some (assign (.Name y py) env)) (Q := fun _ s' => Q .next s') rfl hs hclos hkind hnames
    (wpAny_mono h (fun xv s₁ h₁ => wpAny_mono h₁ (fun it s₂ h₂ => ?_) fun _ _ e => e) fun _ _ e => e)) (fun _ s' hq => wpAny_pure (wpAny_pure hq)) fun _ _ e => e)
  obtain ⟨I, St, rfl, hst, hfr, hself, hl⟩ := h₂
  refine wpAny_newObj_type (wp_compEnv fun h' hns hk hc => ?_)
  dsimp only at hns hk hc ⊢
  have hC : (s₂.heap.push { cls := .type "list", dict := none, data := .seq ([] : List Value).toArray }).objs.size = s₂.heap.objs.size + 1 := Heap.size_push ..
  rw [hC] at hns hc ⊢
  have hlist : h'.IsList s₂.heap.objs.size #[] := ⟨_, hk _ _ (Heap.get?_push_size _ rfl), rfl, _, rfl⟩
  have hk' : Kp s₂.heap h' := fun b o e => hk _ _ (Heap.get?_push_of_some _ e)
  have loop := hl _ _ h' rfl rfl hns hlist hk' hc
  have done : codeAny (model prog w) A (.compLoop (.ListComp elt [⟨target, iter, ifs, 0⟩] scope pos) 0 (.ref I) (.ref s₂.heap.objs.size) (compEnvC scope (cellsFrom (s₂.heap.objs.size + 1 + 1) scope.names cl) (s₂.heap.objs.size + 1) env))
      (compPost (model prog w) A E (some (assign (.Name y py) env)) (fun _ s' => Q .next s') (.ref s₂.heap.objs.size) (s₂.heap.objs.size + 1)) { s₂ with heap := h' } := codeAny_mono loop fun r s' hr => by
    obtain ⟨rfl, hq⟩ := hr
    show wpAny _ A (assign (.Name y py) env (.ref s₂.heap.objs.size)) _ _ _
    exact wpAny_assign_Name (wpAny_mono hq (fun _ s'' ⟨⟨m, hm⟩, hq'⟩ => ⟨m, hm, hq'⟩) fun _ _ x => x.elim)
  exact codeAny_compStart_list done (hself _ _ _ (hfr _ _ hst hk') done)

/-- what a list comprehension's turns make -/
structure Made (base : Shared) (D C : Addr) (wr : List Addr) (J : List Value → List (Addr × Obj) → Prop) (ys : List Value) (s' : Shared) : Prop where
  same : ∃ h tk, s' = { base with heap := h, toks := tk }
  ns : ∃ m, s'.heap.Ns C m
  keep : ∀ b o, b ∉ wr → base.heap.get? b = some o → s'.heap.get? b = some o
  news : ∃ news, (∀ p ∈ news, s'.heap.get? p.1 = some p.2 ∧ C < p.1) ∧ J ys news

theorem Made.next {base : Shared} {D C : Addr} {wr : List Addr} {J : List Value → List (Addr × Obj) → Prop} {ys : List Value} {s' : Shared} (x : Made base D C wr J ys s') (hCw : C ∉ wr) (hw : ∀ b ∈ wr, b < C) {h' : Heap} {tk : Nat}
    (hk : ∀ b o, b ∉ wr → s'.heap.get? b = some o → h'.get? b = some o) : Made base D C wr J ys { s' with heap := h', toks := tk } := by
  obtain ⟨⟨H, tk0, rfl⟩, ⟨m, hm⟩, keep, news, hn, hJ⟩ := x
  refine ⟨⟨h', tk, rfl⟩, ⟨m, hm.at' fun o e => hk _ o hCw e⟩, fun b o hb e => hk b o hb (keep b o hb e), news, fun p hp => ⟨hk _ _ (fun hm => ?_) (hn p hp).1, (hn p hp).2⟩, hJ⟩
  exact absurd (Nat.lt_trans (hw _ hm) (hn p hp).2) (Nat.lt_irrefl _)
theorem Made.app {base : Shared} {D C : Addr} {wr : List Addr} {J : List Value → List (Addr × Obj) → Prop} {ys : List Value} {s' : Shared} (x : Made base D C wr J ys s') (hD : base.heap.objs.size = D) (hC : C = D + 1) {h' : Heap}
    (hk : Heap.SameBut D s'.heap h') : Made base D C wr J ys { s' with heap := h' } := by
  obtain ⟨⟨H, tk0, rfl⟩, ⟨m, hm⟩, keep, news, hn, hJ⟩ := x
  have hDC : D < C := by rw [hC]; exact Nat.lt_succ_self _
  refine ⟨⟨h', tk0, rfl⟩, ⟨m, hm.sameBut hk (Nat.ne_of_gt hDC)⟩, fun b o hb e => hk.extBut b o ?_ (keep b o hb e), news, fun p hp => ⟨hk.extBut _ _ ?_ (hn p hp).1, (hn p hp).2⟩, hJ⟩
  · exact Nat.ne_of_lt (hD ▸ Heap.lt_size e)
  · exact Nat.ne_of_gt (Nat.lt_trans hDC (hn p hp).2)

/-- a plain name's turns -/
theorem lc_names {elt iter : PySem.Expr} {x : Str} {px : Pos} {ifs : List PySem.Expr} {scope : Scope} {pos : Pos} {I D C : Addr} {env cenv : Env} {fp wr : List Addr} {n : Nat} {P : Nat → Value → Prop} {St : Nat → Heap → Prop} (W : Walks prog w A I fp wr n P St)
    (hgo : ∀ v, letOwnedTupleGo (.Name x px) (.ref I) v = pure ()) (hCl : cenv.locals = C) (hx : cenv.kindOf x = some .local) (hp : (cenv.scope.kind == .class || (cenv.scope.kind == .module && cenv.locals != cenv.globals)) = false)
    (J : Nat → List Value → List (Addr × Obj) → Prop) (hst : St 0 s.heap) (hfp : ∀ b ∈ fp, b < s.heap.objs.size) (h0 : J 0 [] []) (hJl : ∀ i ys news, J i ys news → ys.length ≤ 100000)
    {h' : Heap} (hDe : D = s.heap.objs.size) (hCe : C = D + 1) (hns : h'.Ns C (fun _ => none)) (hD : h'.IsList D #[]) (hk : Kp s.heap h')
    (step : ∀ i ys news v (s₂ : Shared) m₂, i < n → P i v → J i ys news → (∀ p ∈ news, s₂.heap.get? p.1 = some p.2) → s₂.heap.Ns C m₂ → m₂ x = some v → (∀ b o, b ∉ wr → s.heap.get? b = some o → s₂.heap.get? b = some o) →
      wpAny (model prog w) A (tests ifs cenv) (fun ok s₃ => Keeps s₂ s₃ ∧ if ok = true then wpAny (model prog w) A (eval elt cenv) (fun y s₄ => Keeps s₃ s₄ ∧
        ∃ own, (∀ p ∈ own, s₂.heap.objs.size ≤ p.1 ∧ s₄.heap.get? p.1 = some p.2) ∧ J (i + 1) (ys ++ [y]) (own ++ news)) No s₃ else J (i + 1) ys news) No s₂)
    (hR : ∀ s' ys, Made s D C wr (J n) ys s' → s'.heap.IsList D ys.toArray → R (.ok .next) s') :
    codeAny (model prog w) A (.compLoop (.ListComp elt [⟨.Name x px, iter, ifs, 0⟩] scope pos) 0 (.ref I) (.ref D) cenv) R { s with heap := h' } := by
  have hDC : D < C := by rw [hCe]; exact Nat.lt_succ_self _
  have hfp' : ∀ b ∈ fp, b < D := fun b hb => hDe ▸ hfp b hb
  have hDf : D ∉ fp := fun hm => Nat.lt_irrefl _ (hfp' _ hm)
  have hCf : C ∉ fp := fun hm => Nat.lt_irrefl _ (Nat.lt_trans hDC (hfp' _ hm))
  have hCw : C ∉ wr := fun hm => hCf (W.sub _ hm)
  have hw : ∀ b ∈ wr, b < C := fun b hb => Nat.lt_trans (hfp' b (W.sub _ hb)) hDC
  refine lc_walk W hgo (fun i ys s' => Made s D C wr (J i) ys s') (W.frame _ _ _ hst fun b _ o e => hk b o e) hD ⟨⟨h', s.toks, rfl⟩, ⟨_, hns⟩, fun b o _ e => hk b o e, [], (fun p hp => nomatch hp), h0⟩ hDf
    (fun i ys s' h' tk x hk => x.next hCw hw hk) (fun i ys s' h' x hk => x.app hDe.symm hCe hk) ?_ (fun i ys s' x => by obtain ⟨news, _, hJ⟩ := x.news; exact hJl _ _ _ hJ) hR
  rintro i ys v s₁ hi hPv ⟨⟨H, tk0, rfl⟩, ⟨m, hm⟩, keep, news, hn, hJ⟩
  refine wpAny_assign_Name (wpAny_storeName_local hx (hCl ▸ hm) (fun h₂ hn₂ hs₂ => ?_) hp)
  rw [hCl] at hn₂ hs₂
  have keep₂ : ∀ b o, b ∉ wr → s.heap.get? b = some o → h₂.get? b = some o := fun b o hb e => hs₂.extBut b o (Nat.ne_of_lt (Nat.lt_trans (hDe ▸ Heap.lt_size e) hDC)) (keep b o hb e)
  have news₂ : ∀ p ∈ news, h₂.get? p.1 = some p.2 := fun p hp => hs₂.extBut _ _ (Nat.ne_of_gt (hn p hp).2) (hn p hp).1
  have hCs : C < h₂.objs.size := hn₂.lt
  have step' := step i ys news v { heap := h₂, gens := s.gens, drawn := s.drawn, toks := tk0 + 1, os := s.os } _ hi hPv hJ news₂ hn₂ (by simp) keep₂
  have fpk : ∀ (h₃ : Heap), Kp h₂ h₃ → ∀ b ∈ D :: fp, ∀ o, H.get? b = some o → h₃.get? b = some o := fun h₃ hk₃ b hb o e => by
    refine hk₃ b o (hs₂.extBut b o ?_ e)
    rcases List.mem_cons.mp hb with rfl | hb
    · exact Nat.ne_of_lt hDC
    · exact fun q => hCf (q ▸ hb)
  refine wpAny_mono step' (fun ok s₃ h₃ => ?_) fun _ _ x => x
  obtain ⟨⟨h₃, tk₃, rfl, hk₃⟩, hok⟩ := h₃
  cases ok with
  | false =>
    simp only [Bool.false_eq_true, if_false] at hok ⊢
    exact ⟨⟨⟨h₃, tk₃, rfl⟩, ⟨_, hn₂.keeps hk₃⟩, fun b o hb e => hk₃ b o (keep₂ b o hb e), news, fun p hp => ⟨hk₃ _ _ (news₂ p hp), (hn p hp).2⟩, hok⟩, fpk _ hk₃⟩
  | true =>
    simp only [if_true] at hok ⊢
    refine wpAny_mono hok (fun y s₄ h₄ => ?_) fun _ _ x => x
    obtain ⟨⟨h₄, tk₄, rfl, hk₄⟩, own, hown, hJ'⟩ := h₄
    refine ⟨⟨⟨h₄, tk₄, rfl⟩, ⟨_, (hn₂.keeps hk₃).keeps hk₄⟩, fun b o hb e => hk₄ b o (hk₃ b o (keep₂ b o hb e)), own ++ news, fun p hp => ?_, hJ'⟩, fpk _ fun b o e => hk₄ b o (hk₃ b o e)⟩
    rcases List.mem_append.mp hp with hp | hp
    · exact ⟨(hown p hp).2, Nat.lt_of_lt_of_le hCs (hown p hp).1⟩
    · exact ⟨hk₄ _ _ (hk₃ _ _ (news₂ p hp)), (hn p hp).2⟩

/-- a pair's turns -/
theorem lc_pairs {elt iter : PySem.Expr} {a b : Str} {pa pb tp : Pos} {kk : Nat} {ifs : List PySem.Expr} {scope : Scope} {pos : Pos} {I D C : Addr} {cenv : Env} {fp wr : List Addr} {n : Nat} {Pt : Nat → Array Value → Prop} {St : Nat → Heap → Prop} {Mid : Nat → Addr → Heap → Prop}
    (W : WalksU prog w A I fp wr n Pt St Mid) (hh : A.handled = none) (hPt : ∀ i vals, Pt i vals → ∃ key x, vals = #[key, x]) (hab : a ≠ b)
    (hCl : cenv.locals = C) (hxa : cenv.kindOf a = some .local) (hxb : cenv.kindOf b = some .local) (hp : (cenv.scope.kind == .class || (cenv.scope.kind == .module && cenv.locals != cenv.globals)) = false)
    (J : Nat → List Value → Prop) (hst : St 0 s.heap) (hfp : ∀ b ∈ fp, b < s.heap.objs.size) (h0 : J 0 []) (hJl : ∀ i ys, J i ys → ys.length ≤ 100000)
    {h' : Heap} (hDe : D = s.heap.objs.size) (hCe : C = D + 1) (hns : h'.Ns C (fun _ => none)) (hD : h'.IsList D #[]) (hk : Kp s.heap h')
    (step : ∀ i ys key x (s₂ : Shared) m₂, i < n → Pt i #[key, x] → J i ys → s₂.heap.Ns C m₂ → m₂ a = some key → m₂ b = some x → (∀ b o, b ∉ wr → s.heap.get? b = some o → s₂.heap.get? b = some o) →
      wpAny (model prog w) A (tests ifs cenv) (fun ok s₃ => Keeps s₂ s₃ ∧ if ok = true then wpAny (model prog w) A (eval elt cenv) (fun y s₄ => Keeps s₃ s₄ ∧ J (i + 1) (ys ++ [y])) No s₃ else J (i + 1) ys) No s₂)
    (hR : ∀ s' ys, Made s D C wr (fun ys _ => J n ys) ys s' → s'.heap.IsList D ys.toArray → R (.ok .next) s') :
    codeAny (model prog w) A (.compLoop (.ListComp elt [⟨.Tuple [.Name a pa, .Name b pb] kk tp, iter, ifs, 0⟩] scope pos) 0 (.ref I) (.ref D) cenv) R { s with heap := h' } := by
  have hDC : D < C := by rw [hCe]; exact Nat.lt_succ_self _
  have hfp' : ∀ b ∈ fp, b < D := fun b hb => hDe ▸ hfp b hb
  have hDf : D ∉ fp := fun hm => Nat.lt_irrefl _ (hfp' _ hm)
  have hCf : C ∉ fp := fun hm => Nat.lt_irrefl _ (Nat.lt_trans hDC (hfp' _ hm))
  have hCw : C ∉ wr := fun hm => hCf (W.sub _ hm)
  have hw : ∀ b ∈ wr, b < C := fun b hb => Nat.lt_trans (hfp' b (W.sub _ hb)) hDC
  refine lc_walkU W rfl (fun i ys s' => Made s D C wr (fun ys _ => J i ys) ys s') (W.frame _ _ _ hst fun b _ o e => hk b o e) hD ⟨⟨h', s.toks, rfl⟩, ⟨_, hns⟩, fun b o _ e => hk b o e, [], (fun p hp => nomatch hp), h0⟩ hDf
    (fun i ys s' h' tk x hk => x.next hCw hw hk) (fun i ys s' h' x hk => x.app hDe.symm hCe hk) ?_ (fun i ys s' x => by obtain ⟨news, _, hJ⟩ := x.news; exact hJl _ _ hJ) hR
  rintro i ys U vals s₁ hi hPv hU ⟨⟨H, tk0, rfl⟩, ⟨m, hm⟩, keep, news, hn, hJ⟩
  obtain ⟨key, x, rfl⟩ := hPt _ _ hPv
  refine kcp_assign (env := cenv) hh hU hxa hxb hp (hCl ▸ hm) fun h₂ tk₂ hn₂ hs₂ => ?_
  rw [hCl] at hn₂ hs₂
  have keep₂ : ∀ b o, b ∉ wr → s.heap.get? b = some o → h₂.get? b = some o := fun b o hb e => hs₂ b o (Nat.ne_of_lt (Nat.lt_trans (hDe ▸ Heap.lt_size e) hDC)) (keep b o hb e)
  have step' := step i ys key x { heap := h₂, gens := s.gens, drawn := s.drawn, toks := tk₂, os := s.os } _ hi hPv hJ hn₂ (by simp [hab]) (by simp) keep₂
  have fpk : ∀ (h₃ : Heap), Kp h₂ h₃ → ∀ b ∈ D :: fp, ∀ o, H.get? b = some o → h₃.get? b = some o := fun h₃ hk₃ b hb o e => by
    refine hk₃ b o (hs₂ b o ?_ e)
    rcases List.mem_cons.mp hb with rfl | hb
    · exact Nat.ne_of_lt hDC
    · exact fun q => hCf (q ▸ hb)
  refine wpAny_mono step' (fun ok s₃ h₃ => ?_) fun _ _ x => x
  obtain ⟨⟨h₃, tk₃, rfl, hk₃⟩, hok⟩ := h₃
  cases ok with
  | false =>
    simp only [Bool.false_eq_true, if_false] at hok ⊢
    exact ⟨⟨⟨h₃, tk₃, rfl⟩, ⟨_, hn₂.keeps hk₃⟩, fun b o hb e => hk₃ b o (keep₂ b o hb e), [], (fun p hp => nomatch hp), hok⟩, fpk _ hk₃⟩
  | true =>
    simp only [if_true] at hok ⊢
    refine wpAny_mono hok (fun y s₄ h₄ => ?_) fun _ _ x => x
    obtain ⟨⟨h₄, tk₄, rfl, hk₄⟩, hJ'⟩ := h₄
    exact ⟨⟨⟨h₄, tk₄, rfl⟩, ⟨_, (hn₂.keeps hk₃).keeps hk₄⟩, fun b o hb e => hk₄ b o (hk₃ b o (keep₂ b o hb e)), [], (fun p hp => nomatch hp), hJ'⟩, fpk _ fun b o e => hk₄ b o (hk₃ b o e)⟩
end
end Mine
end
section -- E5
namespace Mine
open PySem PySem.W PyProof.Rows
set_option maxRecDepth 100000

section
variable {prog : Program} {w : World} {A : Around} {E : Value → Shared → Prop} {R : Result → Shared → Prop} {s : Shared}

theorem cells_none : ∀ {names : List (Str × NameKind)} (n : Nat) (cl : List (Str × Addr)), (∀ y ∈ names, y.2 ≠ .cell) → cellsFrom n names cl = cl
  | [], _, _, _ => rfl
  | (x, k) :: r, n, cl, h => by
    have h1 := h (x, k) (.head _)
    unfold cellsFrom
    rw [if_neg (by simpa using h1)]
    exact cells_none n cl fun y hy => h y (.tail _ hy)

/-- [.. for a, b in o.items() ..] -/
theorem wp_LC_items {env : Env} {elt o : PySem.Expr} {apos cpos : Pos} {a b : Str} {pa pb tp : Pos} {kk : Nat} {ifs : List PySem.Expr} {scope : Scope} {cl : List (Str × Addr)} {pos : Pos} {d : Addr} {T : Tb} {Q : Value → Shared → Prop} (hh : A.handled = none)
    (hdS : (d == sysModules) = false) (hd : Tab prog w s.heap d T)
    (hclos : closureFor scope env = pure cl) (hcell : ∀ y ∈ scope.names, y.2 ≠ .cell) (hkind : scope.kind = .function)
    (hnames : ∀ z ∈ scope.names, z.2 = .local → scope.names.lookup z.1 = some .local) (hxa : scope.names.lookup a = some .local) (hxb : scope.names.lookup b = some .local) (hab : a ≠ b)
    (hbase : attributeBase o "items" env (eval o env) = eval o env) (hline : (apos.endLine == cpos.line) = true)
    (ho : ∀ Q', Q' (.ref d) s → wpAny (model prog w) A (eval o env) Q' No s)
    (J : Nat → List Value → Prop) (h0 : J 0 []) (hJl : ∀ i ys, J i ys → ys.length ≤ 100000)
    (step : ∀ C i k c t t' ys (s₂ : Shared) m₂, T[i]? = some (k, c) → J i ys → s₂.heap.Ns C m₂ → m₂ a = some (.str k t') → m₂ b = some (.int c t) → Kp s.heap s₂.heap →
      wpAny (model prog w) A (tests ifs (compEnvC scope cl C env)) (fun ok s₃ => Keeps s₂ s₃ ∧ if ok = true then wpAny (model prog w) A (eval elt (compEnvC scope cl C env)) (fun y s₄ => Keeps s₃ s₄ ∧ J (i + 1) (ys ++ [y])) No s₃ else J (i + 1) ys) No s₂)
    (hQ : ∀ D h' tk ys, s.heap.objs.size ≤ D → h'.IsList D ys.toArray → J T.length ys → Kp s.heap h' → Q (.ref D) { s with heap := h', toks := tk })
    (hs : ∀ x, foldedSetIterable (.Call (.Attribute o "items" apos) [] [] cpos) env x = pure x := by intro _; rfl) :
    wpAny (model prog w) A (eval (.ListComp elt [⟨.Tuple [.Name a pa, .Name b pb] kk tp, .Call (.Attribute o "items" apos) [] [] cpos, ifs, 0⟩] scope pos) env) Q No s := by
  refine wp_LC hclos hkind hnames ?_ hs
  obtain ⟨kvs, hdo, hi⟩ := hd
  obtain ⟨ep, hat⟩ := hdo.dictAt
  refine wpAny_Call_items (knd := strKind prog w) hdS hdo hbase hline ho ?_
  refine wpAny_pyIter_items (knd := strKind prog w) (d := d) (kvs := kvs) (ep := ep) ⟨_, Heap.get?_push_size _ rfl, rfl, rfl⟩ (hat.push _) ?_
  have hsz : (s.heap.push { cls := .type "dict_items", data := .fields #[.ref d] }).objs.size = s.heap.objs.size + 1 := Heap.size_push ..
  have hdlt := hat.lt_size
  have hIne : d ≠ (s.heap.push { cls := .type "dict_items", data := .fields #[.ref d] }).objs.size := by rw [hsz]; exact Nat.ne_of_lt (Nat.lt_succ_of_lt hdlt)
  have offI : ∀ c, c < s.heap.objs.size → c ≠ (s.heap.push { cls := .type "dict_items", data := .fields #[.ref d] }).objs.size := fun c hc => by rw [hsz]; exact Nat.ne_of_lt (Nat.lt_succ_of_lt hc)
  have W := walksItems (prog := prog) (w := w) hh (s.heap.push { cls := .type "dict_items", data := .fields #[.ref d] }).objs.size d hIne kvs ep
  have hkp : ∀ o', Kp s.heap ((s.heap.push { cls := .type "dict_items", data := .fields #[.ref d] }).push o') := fun o' b o e => Heap.get?_push_of_some _ (Heap.get?_push_of_some _ e)
  refine ⟨_, _, rfl, ?_, (fun h h' st hk => W.frame 0 h h' st fun b _ o e => hk b o e), (fun s' Q' E' st hq => W.self 0 s' Q' E' st hq), fun D C h' hD hC hns hl hk _ => ?_⟩
  · exact ⟨⟨.none, .none, Heap.get?_push_size _ rfl⟩, (hat.push _).push _⟩
  rw [cells_none _ _ hcell]
  refine lc_pairs (cenv := compEnvC scope cl C env) W hh (by rintro i vals ⟨k, key, x, _, _, rfl⟩; exact ⟨key, x, rfl⟩) hab rfl (lookup_relabel_local hxa) (lookup_relabel_local hxb) (by simp [compEnvC, relabel, hkind]) J
    ⟨⟨.none, .none, Heap.get?_push_size _ rfl⟩, (hat.push _).push _⟩ ?_ h0 hJl hD hC hns hl hk ?_ ?_
  · intro b hb
    simp only [List.mem_cons, List.not_mem_nil, or_false] at hb
    rw [Heap.size_push, hsz]
    rcases hb with rfl | rfl
    · rw [hsz]; exact Nat.lt_succ_self _
    · exact Nat.lt_succ_of_lt (Nat.lt_succ_of_lt hdlt)
  · rintro i ys key x s₂ m₂ hlt ⟨k, key', x', hx, hkey, e⟩ hJ hn ha hb hkk
    obtain ⟨rfl, rfl⟩ : key = key' ∧ x = x' := by simpa using e
    obtain ⟨c, t, rfl, hT⟩ := hi.at hx
    obtain ⟨t', rfl⟩ := Value.isStrOf_shape hkey
    refine step C i k c t t' ys s₂ m₂ hT hJ hn ha hb fun b o e => hkk b o ?_ (hkp _ b o e)
    intro q
    simp only [List.mem_singleton] at q
    exact offI b (Heap.lt_size e) q
  · rintro s' ys ⟨⟨H, tk, rfl⟩, hm, keep, news, hnews, hJ⟩ hl'
    have hDs : s.heap.objs.size ≤ D := by rw [hD, Heap.size_push, hsz]; exact Nat.le_succ_of_le (Nat.le_succ _)
    have hDC : D ≠ C := by rw [hC]; exact Nat.ne_of_lt (Nat.lt_succ_self _)
    refine ⟨rfl, hm, fun h'' hs'' => ?_⟩
    refine hQ D h'' tk ys hDs (hl'.extBut hs''.extBut hDC) (by rw [← hi.length]; exact hJ) fun b o e => hs''.extBut b o ?_ (keep b o ?_ (hkp _ b o e))
    · exact Nat.ne_of_lt (Nat.lt_of_lt_of_le (Heap.lt_size e) (by rw [hC]; exact Nat.le_succ_of_le hDs))
    · intro q
      simp only [List.mem_singleton] at q
      exact offI b (Heap.lt_size e) q

/-- a name in a cell -/
theorem lc_cell {elt iter : PySem.Expr} {x : Str} {px : Pos} {ifs : List PySem.Expr} {scope : Scope} {pos : Pos} {I D C c : Addr} {cenv : Env} {fp wr : List Addr} {n : Nat} {P : Nat → Value → Prop} {St : Nat → Heap → Prop} (W : Walks prog w A I fp wr n P St)
    (hgo : ∀ v, letOwnedTupleGo (.Name x px) (.ref I) v = pure ()) (hx : cenv.kindOf x = some .cell) (hcc : cenv.cells.lookup x = some c) (hk0 : cenv.scope.kind = .function)
    (J : Nat → List Value → Prop) (hst : St 0 s.heap) (hfp : ∀ b ∈ fp, b < s.heap.objs.size) (h0 : J 0 []) (hJl : ∀ i ys, J i ys → ys.length ≤ 100000)
    {h' : Heap} (hDe : D = s.heap.objs.size) (hCe : C = D + 1) (hns : h'.Ns C (fun _ => none)) (hD : h'.IsList D #[]) (hk : Kp s.heap h') (hc : h'.IsCell c none) (hCc : C < c)
    (step : ∀ i ys v (s₂ : Shared), i < n → P i v → J i ys → s₂.heap.IsCell c (some v) → (∀ b o, b ∉ wr → s.heap.get? b = some o → s₂.heap.get? b = some o) →
      wpAny (model prog w) A (tests ifs cenv) (fun ok s₃ => Keeps s₂ s₃ ∧ if ok = true then wpAny (model prog w) A (eval elt cenv) (fun y s₄ => Keeps s₃ s₄ ∧ J (i + 1) (ys ++ [y])) No s₃ else J (i + 1) ys) No s₂)
    (hR : ∀ s' ys, Made s D C wr (fun ys _ => J n ys) ys s' → s'.heap.IsList D ys.toArray → R (.ok .next) s') :
    codeAny (model prog w) A (.compLoop (.ListComp elt [⟨.Name x px, iter, ifs, 0⟩] scope pos) 0 (.ref I) (.ref D) cenv) R { s with heap := h' } := by
  have hDC : D < C := by rw [hCe]; exact Nat.lt_succ_self _
  have hfp' : ∀ b ∈ fp, b < D := fun b hb => hDe ▸ hfp b hb
  have hDf : D ∉ fp := fun hm => Nat.lt_irrefl _ (hfp' _ hm)
  have hCf : C ∉ fp := fun hm => Nat.lt_irrefl _ (Nat.lt_trans hDC (hfp' _ hm))
  have hcf : c ∉ fp := fun hm => Nat.lt_irrefl _ (Nat.lt_trans (Nat.lt_trans hDC hCc) (hfp' _ hm))
  have hCw : C ∉ wr := fun hm => hCf (W.sub _ hm)
  have hw : ∀ b ∈ wr, b < C := fun b hb => Nat.lt_trans (hfp' b (W.sub _ hb)) hDC
  refine lc_walk W hgo (fun i ys s' => Made s D C wr (fun ys _ => J i ys) ys s' ∧ ∃ u, s'.heap.IsCell c u) (W.frame _ _ _ hst fun b _ o e => hk b o e) hD ⟨⟨⟨h', s.toks, rfl⟩, ⟨_, hns⟩, fun b o _ e => hk b o e, [], (fun p hp => nomatch hp), h0⟩, _, hc⟩ hDf
    (fun i ys s' h' tk x hk => ⟨x.1.next hCw hw hk, ?_⟩) (fun i ys s' h' x hk => ⟨x.1.app hDe.symm hCe hk, ?_⟩) ?_ (fun i ys s' x => by obtain ⟨news, _, hJ⟩ := x.1.news; exact hJl _ _ hJ) (fun s' ys x => hR s' ys x.1)
  · obtain ⟨u, o, ho, hd⟩ := x.2
    exact ⟨u, o, hk _ _ (fun hm => hcf (W.sub _ hm)) ho, hd⟩
  · obtain ⟨u, o, ho, hd⟩ := x.2
    exact ⟨u, o, hk.extBut _ _ (Nat.ne_of_gt (Nat.lt_trans hDC hCc)) ho, hd⟩
  rintro i ys v s₁ hi hPv ⟨⟨⟨H, tk0, rfl⟩, ⟨m, hm⟩, keep, news, hn, hJ⟩, u, hcu⟩
  refine wpAny_assign_Name (wpAny_storeName_cell hk0 hx hcc hcu fun h₂ hc₂ hs₂ => ?_)
  have keep₂ : ∀ b o, b ∉ wr → s.heap.get? b = some o → h₂.get? b = some o := fun b o hb e => hs₂.extBut b o (Nat.ne_of_lt (Nat.lt_trans (hDe ▸ Heap.lt_size e) (Nat.lt_trans hDC hCc))) (keep b o hb e)
  have step' := step i ys v { heap := h₂, gens := s.gens, drawn := s.drawn, toks := tk0, os := s.os } hi hPv hJ hc₂ keep₂
  have hn₂ : h₂.Ns C m := hm.at' fun o e => hs₂.extBut _ _ (Nat.ne_of_lt hCc) e
  have fpk : ∀ (h₃ : Heap), Kp h₂ h₃ → ∀ b ∈ D :: fp, ∀ o, H.get? b = some o → h₃.get? b = some o := fun h₃ hk₃ b hb o e => by
    refine hk₃ b o (hs₂.extBut b o ?_ e)
    rcases List.mem_cons.mp hb with rfl | hb
    · exact Nat.ne_of_lt (Nat.lt_trans hDC hCc)
    · exact fun q => hcf (q ▸ hb)
  refine wpAny_mono step' (fun ok s₃ h₃ => ?_) fun _ _ x => x
  obtain ⟨⟨h₃, tk₃, rfl, hk₃⟩, hok⟩ := h₃
  cases ok with
  | false =>
    simp only [Bool.false_eq_true, if_false] at hok ⊢
    exact ⟨⟨⟨⟨h₃, tk₃, rfl⟩, ⟨_, hn₂.keeps hk₃⟩, fun b o hb e => hk₃ b o (keep₂ b o hb e), [], (fun p hp => nomatch hp), hok⟩, _, hc₂.keeps hk₃⟩, fpk _ hk₃⟩
  | true =>
    simp only [if_true] at hok ⊢
    refine wpAny_mono hok (fun y s₄ h₄ => ?_) fun _ _ x => x
    obtain ⟨⟨h₄, tk₄, rfl, hk₄⟩, hJ'⟩ := h₄
    exact ⟨⟨⟨⟨h₄, tk₄, rfl⟩, ⟨_, (hn₂.keeps hk₃).keeps hk₄⟩, fun b o hb e => hk₄ b o (hk₃ b o (keep₂ b o hb e)), [], (fun p hp => nomatch hp), hJ'⟩, _, (hc₂.keeps hk₃).keeps hk₄⟩, fpk _ fun b o e => hk₄ b o (hk₃ b o e)⟩

theorem call_sum {l : Addr} {vs : List Value} {ns : List Int} {Q : Value → Shared → Prop} (hh : A.handled = none) (hl : s.heap.IsList l vs.toArray) (hi : IntsAre vs ns)
    (h : ∀ h' tk t', Kp s.heap h' → Q (.int ns.sum t') { s with heap := h', toks := tk }) : wpAny (model prog w) A (call (.builtin "sum") [.ref l]) Q E s := by
  obtain ⟨xs, hx⟩ := hi.allInts.items
  have hl' : s.heap.IsList l (intItems xs) := hx ▸ hl
  refine sum_intListG hh hl' fun h' tk t' hk => ?_
  have e1 : ns = xs.toList.map (·.1) := by
    rw [← nums_intItems, ← hx]
    exact (show numsOf vs.toArray.toList = ns from hi.numsOf).symm
  have e2 : preSum (numAt xs) xs.size = ns.sum := by
    rw [preSum_eq, List.take_of_length_le (by simp), e1]
  rw [e2]
  exact h h' tk t' hk
end
end Mine
end
section -- E6
namespace Mine
open PySem PySem.W PyProof.Rows
set_option maxRecDepth 100000

def readF (base : Int) (sg : Nat) (p : Str × Int) : Option Int := if lastC p.1 = sg then some (p.2 * base ^ (p.1.cps.toList.length - 2)) else none
def readT (T : Tb) (base : Int) (sg : Nat) : Int := (T.filterMap (readF base sg)).sum

theorem ints_len {vs : List Value} {ns : List Int} (h : IntsAre vs ns) : vs.length = ns.length := h.length

section
variable {prog : Program} {w : World} {A : Around} {E : Value → Shared → Prop} {s : Shared} {mg mb : Str → Option Value}

/-- a call whose parameters may lie in cells -/
theorem wp_enterX {R : Result → Shared → Prop} {a : Addr} {name : Str} {i : Nat} {cdv : Value} {vals : List Value} {binds : List (Str × Value)} (F : FnAt s.heap a name i cdv) (W : Wd mg mb s.heap) (hroom : A.depth < recursionLimit)
    (hbind : ∀ doc pm ct an, bindArgs (fnOf name name (argsOf i) (bodyOf i) (scopeOf i) .none .none doc pm an cdv ct) ⟨vals, []⟩ = pure binds)
    (hkind : ∀ x ∈ binds, (scopeOf i).names.lookup x.1 = some .local ∨ ((scopeOf i).names.lookup x.1 = some .cell ∧ ((cellsFrom (s.heap.objs.size + 1) (scopeOf i).names []).lookup x.1).isSome = true))
    (h : ∀ s₁, InCallC s s.heap.objs.size (bindL (fun x => (scopeOf i).names.lookup x) binds fun _ => none) (cellsFrom (s.heap.objs.size + 1) (scopeOf i).names []) (bindC (fun x => (scopeOf i).names.lookup x) binds fun _ => none) s₁ →
      wpAny (model prog w) (A.deeper (envOfC name (scopeOf i) s.heap.objs.size a cdv)) (execs (bodyOf i) (envOfC name (scopeOf i) s.heap.objs.size a cdv)) (fun f s' => R (.ok (.ret (match f with | .ret v => v | _ => .none))) s') No s₁)
    (hco : (scopeOf i).isCoroutine = false := by rfl) (hgen : (scopeOf i).isGenerator = false := by rfl) (hk : (scopeOf i).kind = .function := by rfl) :
    codeAny (model prog w) A (.call (.ref a) ⟨vals, []⟩) R s := by
  obtain ⟨o, doc, pm, ct, an, ho, hd, hc⟩ := F
  exact codeAny_call_cells (fd := fnOf name name (argsOf i) (bodyOf i) (scopeOf i) .none .none doc pm an cdv ct) hroom ho hd W.lim hc rfl (hbind doc pm ct an) rfl hkind (fun s₁ x => wp_no (h s₁ x)) hco hgen hk

/-- a name that lies in a cell -/
theorem nc {env : Env} {x : Str} {pos : Pos} {c : Addr} {v : Value} {Q : Value → Shared → Prop} (hcell : s.heap.IsCell c (some v)) (h : Q v s)
    (hc : env.cells.lookup x = some c := by rfl) (hk : env.scope.kind = .function := by rfl) (hl : env.kindOf x = some .cell := by rfl) (hd : (x == ("__debug__" : Str)) = false := by decide) : wpAny (model prog w) A (eval (.Name x pos) env) Q E s :=
  wpAny_Name (wpAny_loadName_cell hk hl hc hcell h) hd

set_option maxHeartbeats 8000000 in
theorem call_read {a t : Addr} {cdv : Value} {T : Tb} {base : Int} {tb : Tok} {n : Nat} {R : Result → Shared → Prop} (F : FnAt s.heap a "_law_read" 15 cdv) (W : Wd mg mb s.heap) (rm : Rm A 2)
    (ht : Tab prog w s.heap t T) (hT : Keys (RowN n) T) (hcn : ∀ p ∈ T, p.2.natAbs < 2 ^ 64) (hn : n ≤ 100) (hb : base.natAbs < 2 ^ 64) (htS : (t == sysModules) = false)
    (h : ∀ D vs h' tk, s.heap.objs.size ≤ D → Kp s.heap h' → h'.IsList D vs.toArray → IntsAre vs [readT T base 120, readT T base 121, readT T base 122] → R (.ok (.ret (.ref D))) { s with heap := h', toks := tk }) :
    codeAny (model prog w) A (.call (.ref a) ⟨[.ref t, .int base tb], []⟩) R s := by
  have hz : T.length ≤ 1000 := Nat.le_trans (rows_le ht.nodup hT) (by omega)
  refine wp_enterX (binds := [("table", .ref t), ("base", .int base tb)]) F W rm.room (fun _ _ _ _ => by rfl) ?_ fun s₁ x => ?_
  · intro x hx
    simp only [List.mem_cons, List.not_mem_nil, or_false] at hx
    rcases hx with rfl | rfl
    · exact .inr ⟨rfl, rfl⟩
    · exact .inr ⟨rfl, rfl⟩
  generalize hL : s.heap.objs.size = L at x ⊢
  have rm' := rm.deeper (envOfC "_law_read" (scopeOf 15) L a cdv)
  generalize hA : A.deeper (envOfC "_law_read" (scopeOf 15) L a cdv) = A' at rm' ⊢
  have hh : A'.handled = none := rm'.hh
  have hct : s₁.heap.IsCell (L + 1) (some (.ref t)) := x.cell (Str.ofString "table") (L + 1) rfl
  have hcb : s₁.heap.IsCell (L + 2) (some (.int base tb)) := x.cell (Str.ofString "base") (L + 2) rfl
  have k1 := x.toInCall.keep
  refine wpAny_execs_cons (wpAny_Return_some ?_)
  refine wp_LC (cl := [(Str.ofString "table", L + 1), (Str.ofString "base", L + 2)]) (by rfl) rfl (by decide) ?_
  refine Calls.Constant_str ?_
  refine wpAny_pyIter_ascii (by decide +kernel) ?_
  have kI : ∀ o', Kp s₁.heap (s₁.heap.push o') := fun o' b o e => Heap.get?_push_of_some _ e
  have Wk := Walks.strAscii (prog := prog) (w := w) hh s₁.heap.objs.size (Str.ofString "xyz") s₁.toks
  have hst : (s₁.heap.push { cls := .type "str_ascii_iterator", data := .fields #[.str (Str.ofString "xyz") s₁.toks, .int 0 0] }).IsStrIter s₁.heap.objs.size "str_ascii_iterator" (Str.ofString "xyz") s₁.toks 0 := ⟨_, Heap.get?_push_size _ rfl, rfl, rfl⟩
  refine ⟨_, _, rfl, hst, (fun h h' st hk => Wk.frame 0 h h' st fun b _ o e => hk b o e), (fun s' Q' E' st hq => Wk.self 0 s' Q' E' st hq), fun D C h' hD hC hns hl hk hcells => ?_⟩
  obtain ⟨hcs, hCc⟩ := hcells (Str.ofString "sign") (C + 1) (.head _)
  have hk1 : Kp s₁.heap h' := fun b o e => hk b o (kI _ b o e)
  refine lc_cell (c := C + 1) Wk (fun _ => by rfl) (by rfl) (by rfl) (by rfl) (fun i ys => IntsAre ys (([120, 121, 122].take i).map (readT T base))) hst ?_ .nil ?_ hD hC hns hl hk hcs hCc ?_ ?_
  · intro b hb
    rw [List.mem_singleton.mp hb, Heap.size_push]; exact Nat.lt_succ_self _
  · intro i ys hJ
    have h1 := hJ.length
    have h2 : (([120, 121, 122] : List Nat).take i).length ≤ 3 := List.length_take_le' ..
    simp only [List.length_map] at h1
    omega
  · rintro i ys v s₂ hi ⟨c, u, hcx, rfl⟩ hJ hc2 hk2
    have hk2' : Kp s₁.heap s₂.heap := fun b o e => hk2 b o (fun q => Nat.lt_irrefl _ ((List.mem_singleton.mp q) ▸ Heap.lt_size e)) (kI _ b o e)
    have hcx' : ([120, 121, 122] : List Nat)[i]? = some c := by
      have e : (Str.ofString "xyz").cps = #[120, 121, 122] := by decide
      rw [e] at hcx; simpa using hcx
    refine wpAny_tests_nil ?_
    refine ⟨keeps_refl _, ?_⟩
    rw [if_pos rfl]
    have W2 := (W.keeps k1).keeps hk2'
    refine Call_ (nb W2 W.f_sum PyProof.Rows.Boot.«sum» ?_)
    refine PyProof.Rows.callWith_builtin1 ?_
    refine args_cons ?_
    have htb2 : Tab prog w s₂.heap t T := (ht.keeps k1).keeps hk2'
    refine wp_LC_items (d := t) (T := T) (cl := [(Str.ofString "sign", C + 1), (Str.ofString "base", L + 2)]) hh htS htb2 (by rfl) (by decide) rfl (by decide) rfl rfl (by decide) rfl rfl (fun Q' q => nc (hct.keeps hk2') q)
      (fun i ys => IntsAre ys ((T.take i).filterMap (readF base c))) .nil ?_ ?_ ?_
    · intro i ys hJ
      have h1 := hJ.length
      have h2 := List.length_filterMap_le (readF base c) (T.take i)
      have h3 : (T.take i).length ≤ T.length := by simp; omega
      omega
    · intro C' i k cc t1 t1' ys s₃ m₃ hTi hJ3 hn3 hma hmb hk3
      have hrow : RowN n k := hT (k, cc) (List.mem_of_getElem? hTi)
      have W3 := W2.keeps hk3
      refine wpAny_tests_one ?_
      refine wpAny_isTrue_Compare1 ?_
      refine wp_last hn3 hma hrow.1.ne fun tk3 tk3' => ?_
      refine nc (c := C + 1) (hc2.keeps hk3) ?_
      refine P.eq_str ?_
      refine wpAny_truthy_bool ?_
      refine ⟨keeps_tok _ _, ?_⟩
      rw [sign_test2]
      by_cases hl : lastC k = c
      · rw [decide_eq_true hl, if_pos rfl]
        refine wpAny_BinOp ?_
        refine nm hn3 hmb ?_
        refine wpAny_BinOp ?_
        refine nc (c := L + 2) ((hcb.keeps hk2').keeps hk3) ?_
        refine wpAny_BinOp ?_
        refine Call_ (nb W3 W.f_len PyProof.Rows.Boot.«len» ?_)
        refine PyProof.Rows.callWith_builtin1 ?_
        refine args_cons ?_
        refine nm hn3 hma ?_
        refine args_nil ?_
        have hkl : k.length = k.cps.toList.length := by simp [Str.length]
        have hk2l : 2 ≤ k.cps.toList.length := by obtain ⟨m, s, hs, e⟩ := hrow.1; rw [e]; simp
        have hkn := hrow.2
        refine P.len_str (by rw [hkl]; omega) ?_
        refine wpAny_Constant_int ?_
        refine PyProof.Rows.sub_int ?_
        refine pow_int_small (by rw [hkl]; omega) (by rw [hkl]; omega) hb ?_
        refine PyProof.Rows.mul_int ?_ (IntMulOk.of_left (intBits_le (hcn (k, cc) (List.mem_of_getElem? hTi))))
        refine ⟨keeps_tok _ _, ?_⟩
        rw [take_next hTi, List.filterMap_append]
        have e1 : readF base c (k, cc) = some (cc * base ^ (k.cps.toList.length - 2)) := by rw [readF, if_pos hl]
        simp only [List.filterMap_cons, e1, List.filterMap_nil]
        have e2 : ((k.length : Int) - 2).toNat = k.cps.toList.length - 2 := by rw [hkl]; omega
        rw [e2]
        exact hJ3.append (.cons _ _ .nil)
      · rw [decide_eq_false hl, if_neg (by decide)]
        rw [take_next hTi, List.filterMap_append]
        have e1 : readF base c (k, cc) = none := by rw [readF, if_neg hl]
        simp only [List.filterMap_cons, e1, List.filterMap_nil, List.append_nil]
        exact hJ3
    · intro D' h3 tk3 ys' hD' hl' hJ' hk3
      refine args_nil ?_
      refine call_sum hh hl' hJ' fun h4 tk4 t4 hk4 => ?_
      refine ⟨⟨h4, tk4, rfl, fun b o e => hk4 b o (hk3 b o e)⟩, ?_⟩
      rw [List.take_length, take_next hcx', List.map_append]
      exact hJ.append (.cons _ _ .nil)
  · rintro s' ys ⟨⟨H, tk, rfl⟩, hm, keep, news, hnews, hJ⟩ hl'
    refine ⟨rfl, hm, fun h'' hs'' => ?_⟩
    have hDC : D ≠ C := by rw [hC]; exact Nat.ne_of_lt (Nat.lt_succ_self _)
    have hLD : L < D := by rw [hD, Heap.size_push]; exact Nat.lt_succ_of_lt x.toInCall.ns.lt
    obtain ⟨H1, tk1, rfl⟩ := x.toInCall.same
    refine h D ys h'' tk (Nat.le_of_lt (hL ▸ hLD)) (fun b o e => hs''.extBut b o ?_ (keep b o ?_ (kI _ b o (k1 b o e)))) (hl'.extBut hs''.extBut hDC) hJ
    · exact Nat.ne_of_lt (Nat.lt_trans (hL ▸ Heap.lt_size e) (Nat.lt_trans hLD (by rw [hC]; exact Nat.lt_succ_self _)))
    · intro q
      exact Nat.lt_irrefl _ ((List.mem_singleton.mp q) ▸ Heap.lt_size (k1 b o e))
end
end Mine
end
section -- E7
namespace Mine
open PySem PySem.W PyProof.Rows
set_option maxRecDepth 100000

section
variable {prog : Program} {w : World} {A : Around} {E : Value → Shared → Prop} {s : Shared} {mg mb : Str → Option Value}
variable {L : Addr} {cs : List (Str × Addr)} {m cm : Str → Option Value} {tabs : List (Addr × Tb)} {ob : List (Addr × Obj)} {s' : Shared}

theorem DSt.newObj (x : DSt prog w s L cs m cm tabs ob s') {D : Addr} {o : Obj} {h' : Heap} {tk : Nat} (hD : s'.heap.objs.size ≤ D) (ho : h'.get? D = some o) (hk : Kp s'.heap h') :
    DSt prog w s L cs m cm tabs ((D, o) :: ob) { s' with heap := h', toks := tk } :=
  (x.grow hk).watch ho (Nat.ne_of_gt (Nat.lt_of_lt_of_le x.lt hD)) fun n c hc => Nat.ne_of_gt (Nat.lt_of_lt_of_le (x.cellLt hc) hD)

theorem DSt.newObjs (x : DSt prog w s L cs m cm tabs ob s') {h' : Heap} {tk : Nat} (hk : Kp s'.heap h') : ∀ (new : List (Addr × Obj)), (∀ p ∈ new, h'.get? p.1 = some p.2 ∧ s'.heap.objs.size ≤ p.1) →
    DSt prog w s L cs m cm tabs (new ++ ob) { s' with heap := h', toks := tk }
  | [], _ => x.grow hk
  | p :: new, h => by
    have y := DSt.newObjs x (tk := tk) hk new fun q hq => h q (.tail _ hq)
    obtain ⟨hp, hs⟩ := h p (.head _)
    exact y.watch (I := p.1) (o := p.2) hp (Nat.ne_of_gt (Nat.lt_of_lt_of_le x.lt hs)) fun n c hc => Nat.ne_of_gt (Nat.lt_of_lt_of_le (x.cellLt hc) hs)

theorem nsObj {h : Heap} {C : Addr} {m : Str → Option Value} (hn : h.Ns C m) : ∃ oC, h.get? C = some oC ∧ ∀ h' : Heap, h'.get? C = some oC → h'.Ns C m :=
  let ⟨o, es, ep, e, r⟩ := hn; ⟨o, e, fun _ e' => ⟨o, es, ep, e', r⟩⟩

/-- a comprehension's value stored, its frame let go -/
theorem DSt.compStore {env : Env} (y : DSt prog w s env.locals env.cells m cm tabs ob s') {H : Heap} {tk : Nat} {C : Addr} {mC : Str → Option Value} {n : Str} {v : Value} (hk : Kp s'.heap H) (hC : H.Ns C mC) (hCs : s'.heap.objs.size ≤ C)
    (new : List (Addr × Obj)) (hnew : ∀ p ∈ new, H.get? p.1 = some p.2 ∧ s'.heap.objs.size ≤ p.1 ∧ p.1 ≠ C) (hkd : env.scope.kind = .function) (hl : env.kindOf n = some .local) :
    wpAny (model prog w) A (storeName env n v) (fun _ s'' => (∃ m, s''.heap.Ns C m) ∧ ∀ h'', Heap.SameBut C s''.heap h'' → DSt prog w s env.locals env.cells (fun y => if y = n then some v else m y) cm tabs (new ++ ob) { s'' with heap := h'' }) E { s' with heap := H, toks := tk } := by
  obtain ⟨oC, hoC, hCn⟩ := nsObj hC
  have x1 := y.newObjs (tk := tk) hk new fun p hp => ⟨(hnew p hp).1, (hnew p hp).2.1⟩
  have hCL : C ≠ env.locals := Nat.ne_of_gt (Nat.lt_of_lt_of_le y.lt hCs)
  have hCc : ∀ n c, env.cells.lookup n = some c → C ≠ c := fun n c hc => Nat.ne_of_gt (Nat.lt_of_lt_of_le (y.cellLt hc) hCs)
  have hC0 : s.heap.get? C = none := by
    cases e : s.heap.get? C with
    | none => rfl
    | some o => exact absurd (Heap.lt_size (y.keep _ _ e)) (Nat.not_lt.mpr hCs)
  refine (x1.watch hoC hCL hCc).store hkd hl fun s2 x2 => ⟨⟨mC, hCn _ (x2.ob (C, oC) (.head _)).1⟩, fun h'' hs'' => ?_⟩
  refine x2.unwatch.other (I := C) (tk := s2.toks) (fun b o hb e => hs''.extBut b o hb e) hC0 hCL hCc (fun p hp => ?_) fun p hp => ?_
  · exact Nat.ne_of_lt (Nat.lt_of_lt_of_le (y.tabLt hp) hCs)
  · rcases List.mem_append.mp hp with hp | hp
    · exact (hnew p hp).2.2
    · exact Nat.ne_of_lt (Nat.lt_of_lt_of_le (Heap.lt_size (y.ob p hp).1) hCs)

/-- the source enumerate(l) of a list comprehension -/
theorem wp_enum_src {env : Env} {elt iter : PySem.Expr} {a b : Str} {pa pb tp : Pos} {kk : Nat} {ifs : List PySem.Expr} {scope : Scope} {cl : List (Str × Addr)} {pos : Pos} {l : Addr} {vs : List Value} {ns : List Int} {RR : Addr → Addr → Result → Shared → Prop} (hh : A.handled = none)
    (hl : s.heap.IsList l vs.toArray) (hv : IntsAre vs ns)
    (hcell : ∀ y ∈ scope.names, y.2 ≠ .cell) (hkind : scope.kind = .function)
    (hxa : scope.names.lookup a = some .local) (hxb : scope.names.lookup b = some .local) (hab : a ≠ b)
    (J : Nat → List Value → Prop) (h0 : J 0 []) (hJl : ∀ i ys, J i ys → ys.length ≤ 100000)
    (step : ∀ (C : Addr) i c t t' ys (s₂ : Shared) m₂, ns[i]? = some c → J i ys → s₂.heap.Ns C m₂ → m₂ a = some (.int i t) → m₂ b = some (.int c t') → Kp s.heap s₂.heap →
      wpAny (model prog w) A (tests ifs (compEnvC scope cl C env)) (fun ok s₃ => Keeps s₂ s₃ ∧ if ok = true then wpAny (model prog w) A (eval elt (compEnvC scope cl C env)) (fun y s₄ => Keeps s₃ s₄ ∧ J (i + 1) (ys ++ [y])) No s₃ else J (i + 1) ys) No s₂)
    (hRR : ∀ D C h' tk ys, s.heap.objs.size ≤ D → C = D + 1 → (∃ m, h'.Ns C m) → h'.IsList D ys.toArray → J ns.length ys → Kp s.heap h' → RR D C (.ok .next) { s with heap := h', toks := tk }) :
    wpAny (model prog w) A (call (.type "enumerate") [.ref l]) (fun xv s₁ => wpAny (model prog w) A (pyIter xv) (fun it s₂ => ∃ I, ∃ St : Heap → Prop, it = .ref I ∧ St s₂.heap ∧ (∀ h h', St h → Kp h h' → St h') ∧
      (∀ (s' : Shared) Q' E', St s'.heap → Q' (.ref I) s' → wpAny (model prog w) A (pyIter (.ref I)) Q' E' s') ∧
      (∀ D C h', D = s₂.heap.objs.size → C = D + 1 → h'.Ns C (fun _ => none) → h'.IsList D #[] → Kp s₂.heap h' → (∀ n c, (n, c) ∈ cellsFrom (C + 1) scope.names [] → h'.IsCell c none ∧ C < c) →
        codeAny (model prog w) A (.compLoop (.ListComp elt [⟨.Tuple [.Name a pa, .Name b pb] kk tp, iter, ifs, 0⟩] scope pos) 0 (.ref I) (.ref D) (compEnvC scope (cellsFrom (C + 1) scope.names cl) C env))
          (RR D C) { s₂ with heap := h' })) E s₁) E s := by
  refine call_enumerate_list hl fun h₂ hE hit hsz hk2 => ?_
  refine wpAny_pyIter_enum hE ?_
  have hll := list_lt hl
  have hle : l ≠ s.heap.objs.size + 1 := Nat.ne_of_lt (Nat.lt_succ_of_lt hll)
  have hli : l ≠ s.heap.objs.size := Nat.ne_of_lt hll
  have W := (WalksT.enumerate (prog := prog) (w := w) hh (s.heap.objs.size + 1) s.heap.objs.size l (Nat.ne_of_gt (Nat.lt_succ_self _)) hle hli vs.toArray).toU
  have hst0 : (∃ old, IsEnum h₂ (s.heap.objs.size + 1) s.heap.objs.size ((0 : Nat) : Int) old) ∧ h₂.IsListIter s.heap.objs.size l 0 ∧ h₂.IsList l vs.toArray := ⟨⟨_, hE⟩, hit, hl.at fun o e => hk2 l o e⟩
  have off : ∀ b o, s.heap.get? b = some o → b ∉ [s.heap.objs.size + 1, s.heap.objs.size] := fun b o e hm => by
    have := Heap.lt_size e
    simp only [List.mem_cons, List.not_mem_nil, or_false] at hm
    rcases hm with rfl | rfl
    · exact Nat.lt_irrefl _ (Nat.lt_trans (Nat.lt_succ_self _) this)
    · exact Nat.lt_irrefl _ this
  refine ⟨_, _, rfl, hst0, (fun h h' st hk => W.frame 0 h h' st fun b _ o e => hk b o e), (fun s' Q' E' st hq => W.self 0 s' Q' E' st hq), fun D C h' hD hC hns hl' hk _ => ?_⟩
  rw [cells_none _ _ hcell]
  refine lc_pairs (cenv := compEnvC scope cl C env) W hh (by rintro i vals ⟨t, x, _, rfl⟩; exact ⟨_, x, rfl⟩) hab rfl (lookup_relabel_local hxa) (lookup_relabel_local hxb) (by simp [compEnvC, relabel, hkind]) J
    hst0 ?_ h0 hJl hD hC hns hl' hk ?_ ?_
  · intro b hb
    simp only [List.mem_cons, List.not_mem_nil, or_false] at hb
    show b < h₂.objs.size
    rw [hsz]
    rcases hb with rfl | rfl | rfl
    · exact Nat.lt_succ_self _
    · exact Nat.lt_succ_of_lt (Nat.lt_succ_self _)
    · exact Nat.lt_succ_of_lt (Nat.lt_succ_of_lt hll)
  · rintro i ys key x s₂ m₂ hlt ⟨t, x', hx, e⟩ hJ hn ha hb hkk
    obtain ⟨rfl, rfl⟩ : key = .int i t ∧ x = x' := by simpa using e
    obtain ⟨c, t', rfl, hT⟩ := hv.at i x (by simpa using hx)
    exact step C i c t t' ys s₂ m₂ hT hJ hn ha hb fun b o e => hkk b o (off b o e) (hk2 b o e)
  · rintro s' ys ⟨⟨H, tk, rfl⟩, hm, keep, news, hnews, hJ⟩ hl2
    refine hRR D C H tk ys ?_ hC hm hl2 ?_ fun b o e => keep b o (off b o e) (hk2 b o e)
    · rw [hD]; show s.heap.objs.size ≤ h₂.objs.size; rw [hsz]; exact Nat.le_succ_of_le (Nat.le_succ _)
    · have := hv.length
      rw [show vs.toArray.size = ns.length from by simpa using this] at hJ
      exact hJ
end
end Mine
end
section -- E8
namespace Mine
open PySem PySem.W PyProof.Rows
set_option maxRecDepth 100000

def nearL (ns : List Int) (o i : Nat) : List Int := (List.range i).filterMap fun j => if ((j : Nat) : Int) - (o : Int) = 1 ∨ ((j : Nat) : Int) - (o : Int) = -1 then some (ns.getD j 0) else none
def nextL (ns : List Int) (o : Nat) (base near low high : Int) (i : Nat) : List Int := (List.range i).map fun j => if j = o then base * near - low * ns.getD j 0 else high * ns.getD j 0
def toldStep (base : Int) (ns : List Int) (d : Nat) : List Int :=
  nextL ns (d % 3) base (nearL ns (d % 3) ns.length).sum (if d < 3 then 1 else base * base) (if d < 3 then base * base else 1) ns.length
def toldT (base : Int) (ns : List Int) (ds : List Nat) : List Int := ds.foldl (toldStep base) ns
theorem toldStep_length (base : Int) (ns : List Int) (d : Nat) : (toldStep base ns d).length = ns.length := by simp [toldStep, nextL]
theorem toldT_length (base : Int) : ∀ (ds : List Nat) (ns : List Int), (toldT base ns ds).length = ns.length
  | [], _ => rfl
  | d :: ds, ns => (toldT_length base ds _).trans (toldStep_length ..)

section
variable {prog : Program} {w : World} {A : Around} {E : Value → Shared → Prop} {s : Shared} {mg mb : Str → Option Value}

/-- a pair unpacked into two cells -/
theorem DSt.pairCells {env : Env} {m cm : Str → Option Value} {tabs : List (Addr × Tb)} {ob : List (Addr × Obj)} {s' : Shared} (y : DSt prog w s env.locals env.cells m cm tabs ob s') {a b : Str} {pa pb tp : Pos} {kk : Nat} {U : Addr} {v1 v2 : Value} {ca cb : Addr} {Q : Unit → Shared → Prop} (hh : A.handled = none)
    (hU : s'.heap.IsTuple U #[v1, v2]) (hkd : env.scope.kind = .function) (ha : env.kindOf a = some .cell) (hb : env.kindOf b = some .cell) (hca : env.cells.lookup a = some ca) (hcb : env.cells.lookup b = some cb)
    (h : ∀ s'', DSt prog w s env.locals env.cells m (fun y => if y = b then some v2 else if y = a then some v1 else cm y) tabs ob s'' → Q () s'') :
    wpAny (model prog w) A (assign (.Tuple [.Name a pa, .Name b pb] kk tp) env (.ref U)) Q E s' := by
  refine wpAny_assign_Tuple hh hU rfl rfl fun h₁ he₁ => ?_
  have x1 := y.grow (tk := s'.toks) (h' := h₁) fun c o e => he₁ c o (Nat.ne_of_lt (Heap.lt_size e)) e
  show wpAny _ _ (assignInOrder [assign (.Name a pa) env, assign (.Name b pb) env] [v1, v2]) _ _ _
  refine assignInOrder_cons ?_
  refine wpAny_assign_Name (x1.storeC hkd ha hca fun s2 x2 => ?_)
  refine assignInOrder_cons ?_
  refine wpAny_assign_Name (x2.storeC hkd hb hcb fun s3 x3 => ?_)
  exact assignInOrder_nil (h _ x3)

set_option maxHeartbeats 16000000 in
theorem call_told {a cd wd : Addr} {cdv : Value} {ns : List Int} {ds : List Nat} {vs ws : List Value} {base : Int} {tb : Tok} {R : Result → Shared → Prop} (F : FnAt s.heap a "_law_told" 16 cdv) (W : Wd mg mb s.heap) (rm : Rm A 2)
    (hc : s.heap.IsList cd vs.toArray) (hv : IntsAre vs ns) (hw : s.heap.IsList wd ws.toArray) (hws : IntsAre ws (ds.map fun d => ((d : Nat) : Int))) (hb : base.natAbs < 2 ^ 31) (hns : ns.length ≤ 1000)
    (h : ∀ D us h' tk, s.heap.objs.size ≤ D → Kp s.heap h' → h'.IsList D us.toArray → IntsAre us (toldT base ns ds) → R (.ok (.ret (.ref D))) { s with heap := h', toks := tk }) :
    codeAny (model prog w) A (.call (.ref a) ⟨[.ref cd, .ref wd, .int base tb], []⟩) R s := by
  refine wp_enterX (binds := [("counts", .ref cd), ("word", .ref wd), ("base", .int base tb)]) F W rm.room (fun _ _ _ _ => by rfl) ?_ fun s₁ x => ?_
  · intro x hx
    simp only [List.mem_cons, List.not_mem_nil, or_false] at hx
    rcases hx with rfl | rfl | rfl
    · exact .inl rfl
    · exact .inl rfl
    · exact .inr ⟨rfl, rfl⟩
  generalize hL : s.heap.objs.size = L at x ⊢
  have rm' := rm.deeper (envOfC "_law_told" (scopeOf 16) L a cdv)
  generalize hA : A.deeper (envOfC "_law_told" (scopeOf 16) L a cdv) = A' at rm' ⊢
  have hh : A'.handled = none := rm'.hh
  have x0 : DSt prog w s L (cellsFrom (L + 1) (scopeOf 16).names []) _ _ [] [] s₁ := ⟨x, (fun p hp => nomatch hp), (fun p hp => nomatch hp)⟩
  -- values = list(counts)
  refine wpAny_execs_cons (wpAny_Assign_Name ?_)
  refine Call_ (nb (W.keeps x0.keep) W.f_list PyProof.Rows.Boot.«list» ?_)
  refine PyProof.Rows.callWith_type1 ?_
  refine args_cons ?_
  refine nm x0.ns rfl ?_
  refine args_nil ?_
  obtain ⟨oc, hoc, hcc, nc0, hdc⟩ := id hc
  have hvl := hv.length
  refine call_list_seq cd (T := "list") (.inl rfl) (x0.keep _ _ hoc) hcc hdc (fun h2 c2 hk2 hD2 => ?_) (by
    have h5 : (1000 : Nat) ≤ sizeLine := by decide
    simp; omega)
  have x2 := x0.newObj (tk := s₁.toks) (Nat.le_refl _) hD2 hk2
  refine x2.store (env := envOfC "_law_told" (scopeOf 16) L a cdv) rfl rfl fun s₃ x3 => ?_
  -- for deed in word
  refine wpAny_execs_cons (wpAny_For ?_)
  refine nm x3.ns (show _ = some (Value.ref wd) from rfl) ?_
  have hw1 : s₃.heap.IsList wd ws.toArray := hw.at fun o q => x3.keep wd o q
  refine wpAny_pyIter_list hw1 ?_
  have hlen : ds.length = ws.length := by have := hws.length; simpa using this.symm
  have hwI : wd ≠ s₃.heap.objs.size := Nat.ne_of_lt (list_lt hw1)
  have hI7 : s₃.heap.objs.size ≠ L := Nat.ne_of_gt x3.lt
  have hI0 : s.heap.get? s₃.heap.objs.size = none := fresh_none (by rw [hL]; exact Nat.le_of_lt x3.lt)
  have hIc : ∀ n c, (cellsFrom (L + 1) (scopeOf 16).names []).lookup n = some c → s₃.heap.objs.size ≠ c := fun n c hc => Nat.ne_of_gt (x3.cellLt hc)
  have x4 := x3.grow (tk := s₃.toks) (h' := s₃.heap.push { cls := .type "list_iterator", data := .fields #[.ref wd, .int 0 0] }) fun b o q => Heap.get?_push_of_some _ q
  have hD3 := x3.ob _ (.head _)
  refine for_walk (Walks.list hh s₃.heap.objs.size wd hwI ws.toArray) (fun v => by rfl) (fun i s' => ∃ m cm, ∃ D : Addr, ∃ o : Obj, ∃ us : Array Value, DSt prog w s L (cellsFrom (L + 1) (scopeOf 16).names []) m cm [] [(D, o)] s' ∧ (o.cls = .type "list" ∧ ∃ n, o.data = .seq us n) ∧ D ≠ s₃.heap.objs.size ∧ s.heap.objs.size ≤ D ∧
    IntsAre us.toList (toldT base ns (ds.take i)) ∧ m (Str.ofString "values") = some (.ref D) ∧ cm (Str.ofString "base") = some (.int base tb)) ?_ ⟨_, _, _, _, _, x4, ⟨rfl, _, rfl⟩, Nat.ne_of_lt (Heap.lt_size hD3.1), Nat.le_of_lt (hL ▸ x0.lt), by simpa [toldT] using hv, rfl, rfl⟩ ?_ ?_ ?_
  · exact ⟨⟨_, Heap.get?_push_size _ rfl, rfl, rfl⟩, hw1.at fun o q => Heap.get?_push_of_some _ q⟩
  · rintro i s' h' tk ⟨m, cm, D, c, us, y, hob, hDI, hm⟩ hk
    refine ⟨m, cm, D, c, us, y.other (I := s₃.heap.objs.size) (fun b o hb q => hk b o (by simpa using hb) q) hI0 hI7 hIc (fun p hp => nomatch hp) ?_, hob, hDI, hm⟩
    intro p hp
    rw [List.mem_singleton.mp hp]; exact hDI
  · rintro i v s₅ hi hvi ⟨m, cm, D, oD, us, y, ⟨hoc, nD, hod⟩, hDI, hDL, hus, hmv, hcb⟩ ⟨⟨oJ, hoJ, hJ2⟩, hwl⟩
    have hvi' : ws[i]? = some v := by simpa using hvi
    obtain ⟨d', td, rfl, hd'⟩ := hws.at i v hvi'
    obtain ⟨d, hdi, rfl⟩ : ∃ d : Nat, ds[i]? = some d ∧ d' = d := by
      rw [List.getElem?_map] at hd'
      cases hq : ds[i]? with
      | none => rw [hq] at hd'; cases hd'
      | some d => rw [hq] at hd'; exact ⟨d, rfl, (Option.some.inj hd').symm⟩
    generalize hnn : toldT base ns (ds.take i) = nn at hus
    have hnnl : nn.length ≤ 1000 := by rw [← hnn, toldT_length]; exact hns
    have yw := y.watch hoJ hI7 hIc
    refine wpAny_assign_Name ?_
    refine yw.store (env := envOfC "_law_told" (scopeOf 16) L a cdv) rfl rfl fun s6 y6 => ?_
    -- own
    refine wpAny_execs_cons (wpAny_Assign_Name ?_)
    refine wpAny_BinOp ?_
    refine nm y6.ns (show _ = some (Value.int d td) from rfl) ?_
    refine wpAny_Constant_int ?_
    refine PyProof.Rows.mod_int (by decide) ?_
    rw [deed_mod]
    refine (y6.toks _).storeC (env := envOfC "_law_told" (scopeOf 16) L a cdv) rfl rfl (c := L + 2) rfl fun s7 y7 => ?_
    have hlv : s7.heap.IsList D us.toList.toArray := ⟨_, (y7.ob (D, _) (.tail _ (.head _))).1, hoc, _, by rw [Array.toArray_toList]; exact hod⟩
    -- near
    refine wpAny_execs_cons (wpAny_Assign_Name ?_)
    have W7 := W.keeps y7.keep
    refine Call_ (nb W7 W.f_sum PyProof.Rows.Boot.«sum» ?_)
    refine PyProof.Rows.callWith_builtin1 ?_
    refine args_cons ?_
    refine wp_LC (cl := [(Str.ofString "own", L + 2)]) (by rfl) rfl (by decide) ?_
    refine Call_ (nb W7 W.f_enumerate PyProof.Rows.Boot.«enumerate» ?_)
    refine PyProof.Rows.callWith_type1 ?_
    refine args_cons ?_
    refine nm y7.ns (show _ = some (Value.ref D) from hmv) ?_
    refine args_nil ?_
    have hown : s7.heap.IsCell (L + 2) (some (.int ((d % 3 : Nat) : Int) _)) := y7.ic.cell (Str.ofString "own") (L + 2) rfl
    refine wp_enum_src hh hlv hus (by decide) rfl rfl rfl (by decide) (fun i ys => IntsAre ys (nearL nn (d % 3) i) ∧ ys.length ≤ i ∧ i ≤ 1000) ⟨.nil, Nat.le_refl _, by decide⟩ ?_ ?_ ?_
    · rintro i ys ⟨_, h1, h2⟩; omega
    · rintro C i c t t' ys s8 m8 hci ⟨hJ, hJ1, hJ2⟩ hn8 hma hmb hk8
      have hil : i < nn.length := (List.getElem?_eq_some_iff.mp hci).1
      have hcd : nn.getD i 0 = c := by rw [List.getD_eq_getElem?_getD, hci]; rfl
      refine wpAny_tests_one ?_
      refine wpAny_isTrue_Compare1 ?_
      refine Call_ (nb (W7.keeps hk8) W.f_abs PyProof.Rows.Boot.«abs» ?_)
      refine PyProof.Rows.callWith_builtin1 ?_
      refine args_cons ?_
      refine wpAny_BinOp ?_
      refine nm hn8 hma ?_
      refine nc (c := L + 2) (hown.keeps hk8) ?_
      refine PyProof.Rows.sub_int ?_
      refine args_nil ?_
      refine call_abs_int fun u tk => ?_
      refine wpAny_Constant_int ?_
      refine PyProof.Rows.eq_int ?_
      refine wpAny_truthy_bool ?_
      refine ⟨keeps_tok _ _, ?_⟩
      have hnext : nearL nn (d % 3) (i + 1) = nearL nn (d % 3) i ++ (if (i : Int) - ((d % 3 : Nat) : Int) = 1 ∨ (i : Int) - ((d % 3 : Nat) : Int) = -1 then [c] else []) := by
        unfold nearL
        rw [List.range_succ, List.filterMap_append, ← hcd]
        congr 1
        by_cases hq : (i : Int) - ((d % 3 : Nat) : Int) = 1 ∨ (i : Int) - ((d % 3 : Nat) : Int) = -1
        · rw [if_pos hq]; simp only [List.filterMap_cons, if_pos hq, List.filterMap_nil]
        · rw [if_neg hq]; simp only [List.filterMap_cons, if_neg hq, List.filterMap_nil]
      by_cases hq : (i : Int) - ((d % 3 : Nat) : Int) = 1 ∨ (i : Int) - ((d % 3 : Nat) : Int) = -1
      · have e : ((if (i : Int) - ((d % 3 : Nat) : Int) < 0 then -((i : Int) - ((d % 3 : Nat) : Int)) else (i : Int) - ((d % 3 : Nat) : Int)) == 1) = true := by
          rw [beq_iff_eq]; split <;> omega
        rw [e, if_pos rfl]
        refine nm hn8 hmb ?_
        refine ⟨keeps_refl _, ?_, by simp; omega, by omega⟩
        rw [hnext, if_pos hq]
        exact hJ.append (.cons _ _ .nil)
      · have e : ((if (i : Int) - ((d % 3 : Nat) : Int) < 0 then -((i : Int) - ((d % 3 : Nat) : Int)) else (i : Int) - ((d % 3 : Nat) : Int)) == 1) = false := by
          rw [beq_eq_false_iff_ne]; split <;> omega
        rw [e, if_neg (by decide)]
        refine ⟨?_, by omega, by omega⟩
        rw [hnext, if_neg hq, List.append_nil]
        exact hJ
    · rintro D8 C8 h8 tk8 ys hD8 hC8 hns8 hl8 ⟨hJ8, _, _⟩ hk8
      refine ⟨rfl, hns8, fun h9 hs9 => ?_⟩
      have hDC8 : D8 ≠ C8 := by rw [hC8]; exact Nat.ne_of_lt (Nat.lt_succ_self _)
      have hk9 : Kp s7.heap h9 := fun b o e => hs9.extBut b o (Nat.ne_of_lt (Nat.lt_of_lt_of_le (Heap.lt_size e) (by rw [hC8]; exact Nat.le_succ_of_le hD8))) (hk8 b o e)
      refine args_nil ?_
      refine call_sum hh (hl8.extBut hs9.extBut hDC8) hJ8 fun h10 tk10 t10 hk10 => ?_
      have y10 := y7.grow (tk := tk10) (h' := h10) fun b o e => hk10 b o (hk9 b o e)
      generalize hnear : (nearL nn (d % 3) nn.length).sum = near
      refine y10.storeC (env := envOfC "_law_told" (scopeOf 16) L a cdv) rfl rfl (c := L + 3) rfl fun s11 y11 => ?_
      -- low, high
      refine wpAny_execs_cons (Assign_Tuple ?_)
      have hbm : IntMulOk base base := IntMulOk.of_left (intBits_le (Nat.lt_of_lt_of_le hb (by decide)))
      have hbase : ∀ {s12 : Shared}, Kp s11.heap s12.heap → s12.heap.IsCell (L + 1) (some (.int base tb)) := fun hk => by
        have := (y11.ic.cell (Str.ofString "base") (L + 1) rfl).keeps hk
        rw [if_neg (by decide), if_neg (by decide), hcb] at this
        exact this
      refine wpAny_mono (?_ : wpAny _ _ _ (fun v s12 => ∃ U t1 t2, v = .ref U ∧ s12.heap.IsTuple U #[.int (if d < 3 then 1 else base * base) t1, .int (if d < 3 then base * base else 1) t2] ∧ Keeps s11 s12) No _) (fun v s12 h12 => ?_) fun _ _ x => x
      · refine wpAny_IfExp ?_
        refine wpAny_isTrue_Compare1 ?_
        refine nm y11.ns (show _ = some (Value.int d td) from rfl) ?_
        refine wpAny_Constant_int ?_
        refine P.lt_int ?_
        refine wpAny_truthy_bool ?_
        by_cases hd3 : d < 3
        · rw [decide_eq_true (by omega), if_pos rfl, if_pos hd3, if_pos hd3]
          refine wpAny_Tuple ?_
          refine args_cons (wpAny_Constant_int ?_)
          refine args_cons (wpAny_BinOp ?_)
          refine nc (c := L + 1) (hbase fun _ _ e => e) ?_
          refine nc (c := L + 1) (hbase fun _ _ e => e) ?_
          refine PyProof.Rows.mul_int ?_ hbm
          refine args_nil ?_
          exact ⟨by show 2 ≤ sizeLine; decide, _, _, _, rfl, ⟨_, Heap.get?_push_size _ rfl, rfl, _, rfl⟩, _, _, rfl, fun b o e => Heap.get?_push_of_some _ e⟩
        · rw [decide_eq_false (by omega), if_neg (by decide), if_neg hd3, if_neg hd3]
          refine wpAny_Tuple ?_
          refine args_cons (wpAny_BinOp ?_)
          refine nc (c := L + 1) (hbase fun _ _ e => e) ?_
          refine nc (c := L + 1) (hbase fun _ _ e => e) ?_
          refine PyProof.Rows.mul_int ?_ hbm
          refine args_cons (wpAny_Constant_int ?_)
          refine args_nil ?_
          exact ⟨by show 2 ≤ sizeLine; decide, _, _, _, rfl, ⟨_, Heap.get?_push_size _ rfl, rfl, _, rfl⟩, _, _, rfl, fun b o e => Heap.get?_push_of_some _ e⟩
      obtain ⟨U, t1, t2, rfl, hU, H12, tk12, rfl, hk12⟩ := h12
      generalize hlow : (if d < 3 then (1 : Int) else base * base) = low at hU
      generalize hhigh : (if d < 3 then base * base else (1 : Int)) = high at hU
      have hbb : (base * base).natAbs < 2 ^ 64 := by
        rw [Int.natAbs_mul]
        exact Nat.lt_of_lt_of_le (Nat.mul_lt_mul_of_lt_of_lt hb hb) (by decide)
      have hlw : low.natAbs < 2 ^ 64 := by rw [← hlow]; split <;> first | exact hbb | decide
      have hhw : high.natAbs < 2 ^ 64 := by rw [← hhigh]; split <;> first | exact hbb | decide
      have y12 := y11.grow (tk := tk12) hk12
      refine y12.pairCells (env := envOfC "_law_told" (scopeOf 16) L a cdv) hh hU rfl rfl rfl (ca := L + 4) (cb := L + 5) rfl rfl fun s13 y13 => ?_
      -- values
      have W13 := W.keeps y13.keep
      have hlv13 : s13.heap.IsList D us.toList.toArray := ⟨_, (y13.ob (D, _) (.tail _ (.head _))).1, hoc, _, by rw [Array.toArray_toList]; exact hod⟩
      have cOwn : s13.heap.IsCell (L + 2) (some (.int ((d % 3 : Nat) : Int) _)) := y13.ic.cell (Str.ofString "own") (L + 2) rfl
      have cNear : s13.heap.IsCell (L + 3) (some (.int near _)) := y13.ic.cell (Str.ofString "near") (L + 3) rfl
      have cLow : s13.heap.IsCell (L + 4) (some (.int low t1)) := y13.ic.cell (Str.ofString "low") (L + 4) rfl
      have cHigh : s13.heap.IsCell (L + 5) (some (.int high t2)) := y13.ic.cell (Str.ofString "high") (L + 5) rfl
      have cBase : s13.heap.IsCell (L + 1) (some (.int base tb)) := by
        have := y13.ic.cell (Str.ofString "base") (L + 1) rfl
        rw [if_neg (by decide), if_neg (by decide), if_neg (by decide), if_neg (by decide), hcb] at this
        exact this
      refine wpAny_execs_cons ?_
      refine wp_Assign_LC (cl := [(Str.ofString "own", L + 2), (Str.ofString "near", L + 3), (Str.ofString "low", L + 4), (Str.ofString "high", L + 5), (Str.ofString "base", L + 1)]) (by rfl) (by rfl) rfl (by decide) ?_
      refine Call_ (nb W13 W.f_enumerate PyProof.Rows.Boot.«enumerate» ?_)
      refine PyProof.Rows.callWith_type1 ?_
      refine args_cons ?_
      refine nm y13.ns (show _ = some (Value.ref D) from hmv) ?_
      refine args_nil ?_
      refine wp_enum_src hh hlv13 hus (by decide) rfl rfl rfl (by decide) (fun i ys => IntsAre ys (nextL nn (d % 3) base near low high i) ∧ ys.length ≤ i ∧ i ≤ 1000) ⟨.nil, Nat.le_refl _, by decide⟩ ?_ ?_ ?_
      · rintro i ys ⟨_, h1, h2⟩; omega
      · rintro C i c t t' ys s14 m14 hci ⟨hJ, hJ1, hJ2⟩ hn14 hma hmb hk14
        have hil : i < nn.length := (List.getElem?_eq_some_iff.mp hci).1
        have hcd : nn.getD i 0 = c := by rw [List.getD_eq_getElem?_getD, hci]; rfl
        refine wpAny_tests_nil ?_
        refine ⟨keeps_refl _, ?_⟩
        rw [if_pos rfl]
        have hnext : nextL nn (d % 3) base near low high (i + 1) = nextL nn (d % 3) base near low high i ++ [if i = d % 3 then base * near - low * c else high * c] := by
          unfold nextL
          rw [List.range_succ, List.map_append, ← hcd]
          rfl
        refine wpAny_IfExp ?_
        refine wpAny_isTrue_Compare1 ?_
        refine nm hn14 hma ?_
        refine nc (c := L + 2) (cOwn.keeps hk14) ?_
        refine PyProof.Rows.eq_int ?_
        refine wpAny_truthy_bool ?_
        by_cases hq : i = d % 3
        · rw [show ((i : Int) == ((d % 3 : Nat) : Int)) = true from by rw [beq_iff_eq]; omega, if_pos rfl]
          refine wpAny_BinOp ?_
          refine wpAny_BinOp ?_
          refine nc (c := L + 1) (cBase.keeps hk14) ?_
          refine nc (c := L + 3) (cNear.keeps hk14) ?_
          refine PyProof.Rows.mul_int ?_ (IntMulOk.of_left (intBits_le (Nat.lt_of_lt_of_le hb (by decide))))
          refine wpAny_BinOp ?_
          refine nc (c := L + 4) (cLow.keeps hk14) ?_
          refine nm hn14 hmb ?_
          refine PyProof.Rows.mul_int ?_ (IntMulOk.of_left (intBits_le hlw))
          refine PyProof.Rows.sub_int ?_
          refine ⟨keeps_tok _ _, ?_, by simp; omega, by omega⟩
          rw [hnext, if_pos hq]
          exact hJ.append (.cons _ _ .nil)
        · rw [show ((i : Int) == ((d % 3 : Nat) : Int)) = false from by rw [beq_eq_false_iff_ne]; omega, if_neg (by decide)]
          refine wpAny_BinOp ?_
          refine nc (c := L + 5) (cHigh.keeps hk14) ?_
          refine nm hn14 hmb ?_
          refine PyProof.Rows.mul_int ?_ (IntMulOk.of_left (intBits_le hhw))
          refine ⟨keeps_tok _ _, ?_, by simp; omega, by omega⟩
          rw [hnext, if_neg hq]
          exact hJ.append (.cons _ _ .nil)
      · rintro D15 C15 h15 tk15 ys hD15 hC15 ⟨mC, hns15⟩ hl15 ⟨hJ15, _, _⟩ hk15
        refine ⟨rfl, ?_⟩
        obtain ⟨o15, ho15, hc15, n15, hd15⟩ := hl15
        have hD15' : s.heap.objs.size ≤ D15 := Nat.le_trans (Nat.le_of_lt (hL ▸ y13.lt)) hD15
        have hI13 : s₃.heap.objs.size < s13.heap.objs.size := Heap.lt_size (y13.ob (s₃.heap.objs.size, oJ) (.head _)).1
        refine wpAny_mono (y13.compStore (n := Str.ofString "values") (v := .ref D15) (env := envOfC "_law_told" (scopeOf 16) L a cdv) hk15 hns15 (by rw [hC15]; exact Nat.le_succ_of_le hD15) [(D15, o15)] (fun p hp => ?_) rfl rfl) (fun _ s16 h16 => ⟨h16.1, fun h17 hs17 => ?_⟩) fun _ _ x => x
        · rw [List.mem_singleton.mp hp]
          exact ⟨ho15, hD15, by rw [hC15]; exact Nat.ne_of_lt (Nat.lt_succ_self _)⟩
        have y16 := h16.2 h17 hs17
        refine wpAny_execs_nil ?_
        refine ⟨rfl, ⟨_, _, D15, o15, ys.toArray, y16.tabsSub (fun p hp => nomatch hp) ?_, ⟨hc15, n15, hd15⟩, Nat.ne_of_gt (Nat.lt_of_lt_of_le hI13 hD15), hD15', ?_, rfl, ?_⟩, ?_⟩
        · intro p hp
          rw [List.mem_singleton.mp hp]; exact .head _
        · rw [take_next hdi, toldT, List.foldl_append]
          show IntsAre _ (toldStep base (toldT base ns (ds.take i)) d)
          rw [hnn, toldStep, hnear, hlow, hhigh]
          exact hJ15
        · show (if _ then _ else if _ then _ else if _ then _ else if _ then _ else _) = _
          rw [if_neg (by decide), if_neg (by decide), if_neg (by decide), if_neg (by decide)]
          exact hcb
        · intro b hb o ho
          simp only [List.mem_cons, List.not_mem_nil, or_false] at hb
          rcases hb with rfl | rfl
          · have q : o = oJ := Option.some.inj (ho.symm.trans hoJ)
            rw [q]
            exact (y16.ob (s₃.heap.objs.size, oJ) (.tail _ (.head _))).1
          · obtain ⟨ow, how, _⟩ := id hw
            have q : o = ow := Option.some.inj (ho.symm.trans (y.keep _ _ how))
            rw [q]
            exact y16.keep _ _ how
  · rintro s' ⟨m, cm, D, oD, us, y, ⟨hoc, nD, hod⟩, hDI, hDL, hus, hmv, hcb⟩
    refine wpAny_execs_cons (wpAny_Return_some ?_)
    refine nm y.ns hmv ?_
    obtain ⟨H16, tk16, rfl⟩ := y.ic.toInCall.same
    refine h D us.toList H16 tk16 hDL y.keep ⟨_, (y.ob (D, _) (.head _)).1, hoc, _, by rw [Array.toArray_toList]; exact hod⟩ ?_
    · rw [show (ws.toArray.size) = ds.length from by simp [hlen], List.take_length] at hus
      exact hus
end
end Mine
end
section -- E9
namespace Mine
open PySem PySem.W PyProof.Rows
set_option maxRecDepth 100000

section
variable {prog : Program} {w : World} {A : Around} {E : Value → Shared → Prop} {s : Shared} {mg mb : Str → Option Value}

/-- the loop of a list comprehension over a list of ints, each turn an int -/
theorem ints_src {env : Env} {elt iter : PySem.Expr} {x : Str} {px : Pos} {scope : Scope} {cl : List (Str × Addr)} {pos : Pos} {l : Addr} {vs : List Value} {ns : List Int} {f : Int → Int} {RR : Addr → Addr → Result → Shared → Prop} (hh : A.handled = none)
    (hl : s.heap.IsList l vs.toArray) (hv : IntsAre vs ns) (hz : ns.length ≤ 100000) (hcell : ∀ y ∈ scope.names, y.2 ≠ .cell) (hkind : scope.kind = .function) (hx : scope.names.lookup x = some .local)
    (step : ∀ (C : Addr) (i : Nat) (c : Int) (t : Tok) (s₂ : Shared) m₂, ns[i]? = some c → s₂.heap.Ns C m₂ → m₂ x = some (.int c t) → Kp s.heap s₂.heap → wpAny (model prog w) A (eval elt (compEnvC scope cl C env)) (fun y s₄ => Keeps s₂ s₄ ∧ ∃ t', y = .int (f c) t') No s₂)
    (hRR : ∀ D C h' tk ys, s.heap.objs.size ≤ D → C = D + 1 → (∃ m, h'.Ns C m) → h'.IsList D ys.toArray → IntsAre ys (ns.map f) → Kp s.heap h' → RR D C (.ok .next) { s with heap := h', toks := tk }) :
    wpAny (model prog w) A (pyIter (.ref l)) (fun it s₂ => ∃ I, ∃ St : Heap → Prop, it = .ref I ∧ St s₂.heap ∧ (∀ h h', St h → Kp h h' → St h') ∧
      (∀ (s' : Shared) Q' E', St s'.heap → Q' (.ref I) s' → wpAny (model prog w) A (pyIter (.ref I)) Q' E' s') ∧
      (∀ D C h', D = s₂.heap.objs.size → C = D + 1 → h'.Ns C (fun _ => none) → h'.IsList D #[] → Kp s₂.heap h' → (∀ n c, (n, c) ∈ cellsFrom (C + 1) scope.names [] → h'.IsCell c none ∧ C < c) →
        codeAny (model prog w) A (.compLoop (.ListComp elt [⟨.Name x px, iter, [], 0⟩] scope pos) 0 (.ref I) (.ref D) (compEnvC scope (cellsFrom (C + 1) scope.names cl) C env))
          (RR D C) { s₂ with heap := h' })) E s := by
  refine wpAny_pyIter_list hl ?_
  have hll := list_lt hl
  have kI : ∀ o', Kp s.heap (s.heap.push o') := fun o' b o e => Heap.get?_push_of_some _ e
  have W := Walks.list (prog := prog) (w := w) hh s.heap.objs.size l (Nat.ne_of_lt hll) vs.toArray
  have hst : (s.heap.push { cls := .type "list_iterator", data := .fields #[.ref l, .int 0 0] }).IsListIter s.heap.objs.size l 0 ∧ (s.heap.push { cls := .type "list_iterator", data := .fields #[.ref l, .int 0 0] }).IsList l vs.toArray :=
    ⟨⟨_, Heap.get?_push_size _ rfl, rfl, rfl⟩, hl.at fun o e => kI _ _ _ e⟩
  have off : ∀ b o, s.heap.get? b = some o → b ∉ [s.heap.objs.size] := fun b o e q => Nat.lt_irrefl _ ((List.mem_singleton.mp q) ▸ Heap.lt_size e)
  refine ⟨_, _, rfl, hst, (fun h h' st hk => W.frame 0 h h' st fun b _ o e => hk b o e), (fun s' Q' E' st hq => W.self 0 s' Q' E' st hq), fun D C h' hD hC hns hl' hk _ => ?_⟩
  rw [cells_none _ _ hcell]
  refine lc_names (env := env) (cenv := compEnvC scope cl C env) W (fun _ => by rfl) rfl (lookup_relabel_local hx) (by simp [compEnvC, relabel, hkind]) (fun i ys _ => IntsAre ys ((ns.take i).map f)) hst ?_ .nil ?_ hD hC hns hl' hk ?_ ?_
  · intro b hb
    simp only [List.mem_cons, List.not_mem_nil, or_false] at hb
    rw [Heap.size_push]
    rcases hb with rfl | rfl
    · exact Nat.lt_succ_self _
    · exact Nat.lt_succ_of_lt hll
  · intro i ys _ hJ
    have h1 := hJ.length
    have h2 : (ns.take i).length ≤ ns.length := by simp; omega
    simp only [List.length_map] at h1
    omega
  · intro i ys news v s₂ m₂ hi hPv hJ _ hn hm hk2
    obtain ⟨c, t, rfl, hc⟩ := hv.at i v (by simpa using hPv)
    refine wpAny_tests_nil ⟨keeps_refl _, ?_⟩
    rw [if_pos rfl]
    refine wpAny_mono (step C i c t s₂ m₂ hc hn hm fun b o e => hk2 b o (off b o e) (kI _ _ _ e)) (fun y s₄ h₄ => ?_) fun _ _ x => x
    obtain ⟨hk4, t', rfl⟩ := h₄
    refine ⟨hk4, [], (fun p hp => nomatch hp), ?_⟩
    rw [take_next hc, List.map_append]
    exact hJ.append (.cons _ _ .nil)
  · rintro s' ys ⟨⟨H, tk, rfl⟩, hm, keep, news, hnews, hJ⟩ hl2
    refine hRR D C H tk ys ?_ hC hm hl2 ?_ fun b o e => keep b o (off b o e) (kI _ _ _ e)
    · rw [hD, Heap.size_push]; exact Nat.le_succ _
    · have h1 := hv.length
      rw [show vs.toArray.size = ns.length from by simpa using h1, List.take_length] at hJ
      exact hJ

/-- a list of ints, as an object -/
def SideO (o : Obj) (xs : List Int) : Prop := o.cls = .type "list" ∧ ∃ us n, o.data = .seq us n ∧ IntsAre us.toList xs
/-- lists of ints -/
def SidesAre (ys : List Value) (news : List (Addr × Obj)) (ss : List (List Int)) : Prop :=
  ∃ l : List (Addr × Obj), ys = l.map (fun p => .ref p.1) ∧ (∀ p ∈ l, p ∈ news) ∧ l.length = ss.length ∧ ∀ (k : Nat) (p : Addr × Obj) (xs : List Int), l[k]? = some p → ss[k]? = some xs → SideO p.2 xs
theorem SidesAre.nil {news : List (Addr × Obj)} : SidesAre [] news [] := ⟨[], rfl, (fun p hp => nomatch hp), rfl, fun k p xs h => by simp at h⟩
theorem SidesAre.snoc {ys : List Value} {news : List (Addr × Obj)} {ss : List (List Int)} (h : SidesAre ys news ss) {a : Addr} {o : Obj} {xs : List Int} (ho : SideO o xs) : SidesAre (ys ++ [.ref a]) ([(a, o)] ++ news) (ss ++ [xs]) := by
  obtain ⟨l, rfl, hm, hl, hk⟩ := h
  refine ⟨l ++ [(a, o)], by simp, fun p hp => ?_, by simp [hl], fun k p zs h1 h2 => ?_⟩
  · rcases List.mem_append.mp hp with hp | hp
    · exact List.mem_append_right _ (hm p hp)
    · rw [List.mem_singleton.mp hp]; exact .head _
  · by_cases hlt : k < l.length
    · rw [List.getElem?_append_left hlt] at h1
      rw [List.getElem?_append_left (hl ▸ hlt)] at h2
      exact hk k p zs h1 h2
    · rw [List.getElem?_append_right (by omega)] at h1
      rw [List.getElem?_append_right (by omega)] at h2
      have e : k - l.length = 0 := by
        have := (List.getElem?_eq_some_iff.mp h1).1
        simp at this; omega
      rw [e] at h1
      rw [← hl, e] at h2
      simp at h1 h2
      subst h1; subst h2
      exact ho
theorem sideO_of {h : Heap} {D : Addr} {ys : List Value} {xs : List Int} (hl : h.IsList D ys.toArray) (hi : IntsAre ys xs) : ∃ o, h.get? D = some o ∧ SideO o xs := by
  obtain ⟨o, ho, hc, n, hd⟩ := hl
  exact ⟨o, ho, hc, _, n, hd, by simpa using hi⟩
theorem list_of_side {h : Heap} {D : Addr} {o : Obj} {xs : List Int} (ho : h.get? D = some o) (hs : SideO o xs) : ∃ vs : List Value, h.IsList D vs.toArray ∧ IntsAre vs xs := by
  obtain ⟨hc, us, n, hd, hi⟩ := hs
  exact ⟨us.toList, ⟨o, ho, hc, n, by rw [Array.toArray_toList]; exact hd⟩, hi⟩
end
end Mine
end
section -- B0
namespace Mine
open PySem PySem.W PyProof.Rows
set_option maxRecDepth 100000

/-- the codes that may hold a bytearray -/
def expo : Code → Bool
  | .builtin id _ => ["bytearray.__contains__", "bytearray.__mod__", "bytearray.__rmod__", "_struct.pack_into.held", "bytearray.find.held"].contains id || Builtin.Bytes.decodersThatHold.contains id
  | _ => false

/-- a stack with none of them -/
def Clean (Γ : PySem.Ctx) : Prop := expo Γ.code = false ∧ ∀ x ∈ Γ.below, expo x.1 = false

def wpS {α : Type} (M : Model) (A : Around) (t : Sem α) (Q : α → Shared → Prop) (E : Value → Shared → Prop) (s : Shared) : Prop :=
  ∀ Γ p, Γ.In A → Clean Γ → Sem.wp M Γ t (fun a _ s' => Q a s') (fun e _ s' => E e s') p s

def codeS (M : Model) (A : Around) (c : Code) (R : Result → Shared → Prop) (s : Shared) : Prop :=
  ∀ Γ p, Γ.code = c → Γ.Below A → Clean Γ → wpCode M Γ R p s

section
variable {α β : Type} {M : Model} {A : Around} {E : Value → Shared → Prop} {s : Shared}

theorem wpS_of {t : Sem α} {Q : α → Shared → Prop} (h : wpAny M A t Q E s) : wpS M A t Q E s := fun Γ p hΓ _ => h Γ p hΓ
theorem wpS_mono {t : Sem α} {Q Q' : α → Shared → Prop} {E' : Value → Shared → Prop} (h : wpS M A t Q E s) (hQ : ∀ a s, Q a s → Q' a s) (hE : ∀ e s, E e s → E' e s) : wpS M A t Q' E' s :=
  fun Γ p hΓ hc => Sem.wp_mono M Γ t (fun a _ s => hQ a s) (fun e _ s => hE e s) p s (h Γ p hΓ hc)
theorem wpS_bind {m : Sem α} {f : α → Sem β} {Q : β → Shared → Prop} (h : wpS M A m (fun a s' => wpS M A (f a) Q E s') E s) : wpS M A (m >>= f) Q E s := fun Γ p hΓ hc => by
  rw [Sem.wp_bind']
  exact Sem.wp_mono M Γ m (fun a p' s' h' => h' Γ p' hΓ hc) (fun _ _ _ h' => h') p s (h Γ p hΓ hc)
/-- a tree's head in the plain logic -/
theorem wpS_then {m : Sem α} {f : α → Sem β} {Q : β → Shared → Prop} (h : wpAny M A m (fun a s' => wpS M A (f a) Q E s') E s) : wpS M A (m >>= f) Q E s := wpS_bind (wpS_of h)
theorem wpS_holding {vs : List Value} {m : Sem α} {Q : α → Shared → Prop} (h : wpS M A m Q E s) : wpS M A (holding vs m) Q E s :=
  fun Γ p hΓ hc => by rw [Sem.wp_holding]; exact h Γ p hΓ hc
theorem wpS_onRaise {m : Sem α} {k : Value → Sem Unit} {Q : α → Shared → Prop} (h : wpS M A m Q No s) : wpS M A (m.onRaise k) Q E s := fun Γ p hΓ hc => by
  rw [Sem.wp_onRaise]
  exact Sem.wp_mono M Γ m (fun _ _ _ h' => h') (fun e p' s' h' => h'.elim) p s (h Γ p hΓ hc)
theorem wpS_of_eq {m : Sem α} {a : α} {Q : α → Shared → Prop} (hm : m = pure a) (h : Q a s) : wpS M A m Q E s := wpS_of (wpAny_of_eq hm h)

theorem codeS_mono {c : Code} {R R' : Result → Shared → Prop} (h : codeS M A c R s) (hR : ∀ r s, R r s → R' r s) : codeS M A c R' s :=
  fun Γ p hc hΓ hcl => wpCode_mono (fun r s' => hR r s') (h Γ p hc hΓ hcl)

theorem codeS_of_tree {c : Code} {R : Result → Shared → Prop}
    (h : wpS M (A.under c) (M.den c) (fun fin s' => match fin with | .done f => R (.ok f) s' | .again c' => c'.quiet = true ∧ expo c' = false ∧ codeS M A c' R s')
      (fun e s' => R (.error e) s') s) : codeS M A c R s := fun Γ p hc hΓ hcl => by
  rw [wpCode_iff_wp, hc]
  refine Sem.wp_mono M Γ _ (fun fin p' s' h' => ?_) (fun _ _ _ h' => h') p s (h Γ p (hc ▸ hΓ.in) hcl)
  cases fin with
  | done f => exact h'
  | again c' => exact ⟨h'.1, h'.2.2 (Γ.goto c') p' rfl (hΓ.goto c') ⟨h'.2.1, hcl.2⟩⟩

theorem wpS_runValue {c : Code} {Q : Value → Shared → Prop} (hx : expo c = false)
    (hc : codeS M A c (fun r s' => match r with | .ok (.ret v) => Q v s' | .ok _ => False | .error e => E e s') s) :
    wpS M A (runValue c) Q E s := fun Γ p hΓ hcl => by
  rw [Sem.wp_runValue]
  refine hc _ p rfl (hΓ.enter c none p (by intro x; cases x)) ⟨hx, fun x hm => ?_⟩
  rcases List.mem_cons.mp hm with rfl | hm
  · exact hcl.1
  · exact hcl.2 x hm
theorem wpS_call {f : Value} {pos : List Value} {kw : List (Str × Value)} {Q : Value → Shared → Prop}
    (hc : codeS M A (.call f ⟨pos, kw⟩) (fun r s' => match r with | .ok (.ret v) => Q v s' | .ok _ => False | .error e => E e s') s) :
    wpS M A (call f pos kw) Q E s := wpS_runValue rfl hc

theorem wpS_execs_cons {env : Env} {st rest} {Q : Flow → Shared → Prop}
    (h : wpS M A (exec st env) (fun f s' => match f with | .next => wpS M A (execs rest env) Q E s' | f => Q f s') E s) : wpS M A (execs (st :: rest) env) Q E s := fun Γ p hΓ hc => by
  rw [execs_cons, Sem.wp_bind']
  refine Sem.wp_mono M Γ _ (fun f p' s' h' => ?_) (fun _ _ _ h' => h') _ _ (h Γ p hΓ hc)
  cases f <;> first | exact h' Γ p' hΓ hc | exact h'
/-- a statement of the plain logic ahead -/
theorem wpS_execs_plain {env : Env} {st rest} {Q : Flow → Shared → Prop}
    (h : wpAny M A (exec st env) (fun f s' => match f with | .next => wpS M A (execs rest env) Q E s' | f => Q f s') E s) : wpS M A (execs (st :: rest) env) Q E s := wpS_execs_cons (wpS_of h)

theorem wpS_Assign_Name {env : Env} {x pos' value pos} {Q : Flow → Shared → Prop}
    (h : wpS M A (eval value env) (fun v s₁ => wpAny M A (storeName env x v) (fun _ => Q .next) E s₁) E s)
    (hs : swapsWith value (some (.Name x pos')) pos.line env = pure false := by rfl) :
    wpS M A (exec (.Assign [.Name x pos'] value pos) env) Q E s := fun Γ p hΓ hc => by
  simp only [exec_Assign_Name env x pos' value pos hs, Sem.wp_bind', Sem.wp_cmd_standAt, Sem.wp_bindName, Sem.wp_pure']
  exact Sem.wp_mono M Γ _ (fun v _ s₁ h₁ => h₁ Γ _ hΓ) (fun _ _ _ h' => h') _ _ (h Γ _ hΓ hc)

theorem wpS_Call {env : Env} {func : PySem.Expr} {args : List PySem.Expr} {pos : Pos} {Q : Value → Shared → Prop}
    (h : wpAny M A (eval func env) (fun f s₁ => wpS M A (callWith pos f [] (backTo pos (starEach args env)) []) Q E s₁) E s)
    (he : eval (.Call func args [] pos) env = (do callWith pos (← eval func env) [] (backTo pos (starEach args env)) (backToKw pos (keywordEach [] env))) := by rfl) :
    wpS M A (eval (.Call func args [] pos) env) Q E s := by
  rw [he]; exact wpS_then h

theorem wpS_tail {t : Sem Value} {Q : Value → Shared → Prop} (ht : wpS M A t Q E s) : wpS M A (t >>= fun r => holding [r] point >>= fun _ => pure r) Q E s :=
  wpS_bind (wpS_mono ht (fun r s₂ hr => wpS_of (wpAny_bind (wpAny_holding (wpAny_point (wpAny_pure hr))))) fun _ _ x => x)

theorem wpS_keep {vs : List Value} {m : Sem α} {Q : α → Shared → Prop} (h : wpS M A m Q E s) : wpS M A (m.keep vs) Q E s :=
  fun Γ p hΓ hc => by rw [Sem.wp_keep]; exact h Γ p hΓ hc
theorem wpS_ite {c : Prop} [Decidable c] {a b : Sem α} {Q : α → Shared → Prop} (h : if c then wpS M A a Q E s else wpS M A b Q E s) :
    wpS M A (if c then a else b) Q E s := by split <;> simp_all
theorem wpS_callWith_def {env : Env} {pos : Pos} {f : Addr} {o : Obj} {fd : FuncData} {e : PySem.Expr} {rest : List PySem.Expr} {Q : Value → Shared → Prop} (hdat : o.data = .func fd)
    (h : wpAny M A (spliced (backTo pos (starEach (e :: rest) env))) (fun vs s₁ => s₁.heap.get? f = some o ∧ wpS M A (call (.ref f) vs) Q E s₁) E s)
    (he : starEach (e :: rest) env = (false, eval e env) :: starEach rest env := by rfl) :
    wpS M A (callWith pos (.ref f) [] (backTo pos (starEach (e :: rest) env)) []) Q E s := by
  rw [he] at h ⊢
  have ha : wpAny M A (evalArgs (.ref f) true (backTo pos ((false, eval e env) :: starEach rest env)) []) (fun x s₁ => s₁.heap.get? f = some o ∧ wpS M A (call (.ref f) x.pos x.kw) Q E s₁) E s := Calls.evalArgs_plain h
  unfold callWith
  refine wpS_then (wpAny_holding (wpAny_mono ha (fun x s₁ h₁ => ?_) fun _ _ x => x))
  refine wpS_then (wpAny_standAt ?_)
  cases hs : (backTo pos ((false, eval e env) :: starEach rest env)).any (·.1) <;> simp only [List.any_nil, Bool.or_false] <;>
    refine wpS_then (m := keeperOf (.ref f)) ?_ <;> unfold keeperOf <;>
    refine wpAny_bind (wpAny_load h₁.1 ?_) <;> rw [hdat] <;> refine wpAny_pure ?_
  · first
      | refine wpS_ite ?_
      | skip
    split <;> first
      | exact wpS_tail h₁.2
      | exact wpS_tail (by unfold callMarked; exact wpS_keep h₁.2)
  · first
      | exact wpS_tail (by unfold callMarked; exact wpS_keep h₁.2)
      | exact wpS_tail h₁.2
theorem wpS_callWith_type {env : Env} {pos : Pos} {T : String} {e : PySem.Expr} {rest : List PySem.Expr} {Q : Value → Shared → Prop}
    (h : wpAny M A (spliced (backTo pos (starEach (e :: rest) env))) (fun vs s₁ => wpS M A (call (.type T) vs) Q E s₁) E s)
    (he : starEach (e :: rest) env = (false, eval e env) :: starEach rest env := by rfl)
    (hplain : (backTo pos (starEach rest env)).any (·.1) = false := by rfl) :
    wpS M A (callWith pos (.type T) [] (backTo pos (starEach (e :: rest) env)) []) Q E s := by
  rw [he] at h ⊢
  have ha : wpAny M A (evalArgs (.type T) true (backTo pos ((false, eval e env) :: starEach rest env)) []) (fun x s₁ => wpS M A (call (.type T) x.pos x.kw) Q E s₁) E s := Calls.evalArgs_plain h
  unfold callWith
  refine wpS_then (wpAny_holding (wpAny_mono ha (fun x s₁ h₁ => ?_) fun _ _ x => x))
  refine wpS_then (wpAny_standAt ?_)
  have hp : (backTo pos ((false, eval e env) :: starEach rest env)).any (·.1) = false := by show (false || (backTo pos (starEach rest env)).any (·.1)) = false; rw [hplain]; rfl
  simp only [hp, List.any_nil, Bool.or_false]
  refine wpS_then (wpAny_pure ?_)
  exact wpS_tail h₁

def exf (self : Value) : Code × Pos → Bool := fun
    | (.builtin "bytearray.__contains__" ⟨v :: _, _⟩, _) | (.builtin "bytearray.__mod__" ⟨v :: _, _⟩, _)
    | (.builtin "bytearray.__rmod__" ⟨_ :: v :: _, _⟩, _) | (.builtin "_struct.pack_into.held" ⟨v :: _, _⟩, _) => Builtin.Bytes.sameRef v self
    | (.builtin "bytearray.find.held" ⟨_ :: _ :: held, _⟩, _) => held.any (Builtin.Bytes.sameRef self)
    | (.builtin id ⟨v :: _, _⟩, _) => Builtin.Bytes.sameRef v self && Builtin.Bytes.decodersThatHold.contains id
    | _ => false
theorem expo_of {c : Code} (h : expo c = false) (self : Value) (p : Pos) : exf self (c, p) = false := by
  unfold expo at h
  unfold exf
  split <;> simp_all
end

section
variable {prog : Program} {w : World} {A : Around} {E : Value → Shared → Prop} {s : Shared} {mg mb : Str → Option Value}

theorem codeS_func {R : Result → Shared → Prop} {body env}
    (h : wpS (model prog w) (A.deeper env) (execs body env) (fun f s' => R (.ok (.ret (match f with | .ret v => v | _ => .none))) s') No s) :
    codeS (model prog w) A (.func body env) R s := by
  refine codeS_of_tree ?_
  show wpS _ (A.deeper env) (do point; match ← (execs body env).onRaise (leaving env) with | .ret v => ret v | _ => ret .none) _ _ s
  refine wpS_then (wpAny_point (wpS_bind (wpS_onRaise (wpS_mono h (fun f s' h' => ?_) fun _ _ h' => h'))))
  cases f <;> exact wpS_of (wpAny_pure h')

/-- a call at a known stack -/
theorem wp_enterS {R : Result → Shared → Prop} {a : Addr} {name : Str} {i : Nat} {cdv : Value} {vals : List Value} {binds : List (Str × Value)} (F : FnAt s.heap a name i cdv) (W : Wd mg mb s.heap) (hroom : A.depth < recursionLimit)
    (hbind : ∀ doc pm ct an, bindArgs (fnOf name name (argsOf i) (bodyOf i) (scopeOf i) .none .none doc pm an cdv ct) ⟨vals, []⟩ = pure binds)
    (hkind : ∀ x ∈ binds, (scopeOf i).names.lookup x.1 = some .local ∨ ((scopeOf i).names.lookup x.1 = some .cell ∧ ((cellsFrom (s.heap.objs.size + 1) (scopeOf i).names []).lookup x.1).isSome = true))
    (h : ∀ s₁, InCallC s s.heap.objs.size (bindL (fun x => (scopeOf i).names.lookup x) binds fun _ => none) (cellsFrom (s.heap.objs.size + 1) (scopeOf i).names []) (bindC (fun x => (scopeOf i).names.lookup x) binds fun _ => none) s₁ →
      wpS (model prog w) (A.deeper (envOfC name (scopeOf i) s.heap.objs.size a cdv)) (execs (bodyOf i) (envOfC name (scopeOf i) s.heap.objs.size a cdv)) (fun f s' => R (.ok (.ret (match f with | .ret v => v | _ => .none))) s') No s₁)
    (hco : (scopeOf i).isCoroutine = false := by rfl) (hgen : (scopeOf i).isGenerator = false := by rfl) (hk : (scopeOf i).kind = .function := by rfl) :
    codeS (model prog w) A (.call (.ref a) ⟨vals, []⟩) R s := by
  obtain ⟨o, doc, pm, ct, an, ho, hd, hcd⟩ := F
  refine codeS_of_tree ?_
  show wpS _ A.in1 (callAny (.ref a) ⟨vals, []⟩) _ _ s
  simp only [callAny]
  refine wpS_then (wpAny_load ho ?_)
  obtain ⟨c, oc, vs, tq, hc, hoc, hdc, hq⟩ := hcd
  subst hc
  have hb := hbind doc pm ct an
  simp only [hd, callFunction, hco, hgen, hb]
  refine wpS_then (m := field (.ref c) 1) (wpAny_field hoc hdc hq ?_)
  refine wpS_then (wpAny_pure ?_)
  refine wpS_then (m := pure binds) (wpAny_pure ?_)
  refine wpS_then (wpAny_newFunctionEnv_cells hk hkind fun env he s' x => ?_)
  subst he
  refine wpS_then (wpAny_enterFrame (W.lim.keeps x.toInCall.keep) hroom ?_)
  exact wpS_of (wpAny_pure ⟨rfl, rfl, codeS_func (h s' x)⟩)

theorem codeS_builtin {R : Result → Shared → Prop} {id : String} {args : Args} {b : Builtin} (hb : entryFor table id = some b)
    (h : wpS (model prog w) (A.under (.builtin id args)) (b args)
      (fun fin s' => match fin with | .done f => R (.ok f) s' | .again c' => c'.quiet = true ∧ expo c' = false ∧ codeS (model prog w) A c' R s') (fun e s' => R (.error e) s') s) :
    codeS (model prog w) A (.builtin id args) R s := by
  refine codeS_of_tree ?_
  show wpS _ _ (match entryFor table id with | some b => b args | none => unsupported ((withoutEnding? id "#data").getD id)) _ _ s
  rw [hb]; exact h
end
end Mine
end
section -- B1f
namespace Mine
open PySem PySem.W PyProof.Rows
set_option maxRecDepth 100000

namespace BA
theorem mro : mroOf (.type "bytearray") = pure [.type "bytearray", .type "object"] := by rw [mroOf_type]; kernel_rfl
theorem lookup_new : typeLookup (.type "bytearray") "__new__" = pure (some (.builtin "bytearray.__new__")) := by rw [typeLookup_type, builtinLookup_eq_fast]; kernel_rfl
theorem slot_init : Slot "bytearray" "__init__" "bytearray.__init__" :=
  .of (owner := "bytearray") (n := "__init__") (by rw [typeLookup_type, builtinLookup_eq_fast]; kernel_rfl) (by decide +kernel) (by decide +kernel) (by decide +kernel)
    (by first | exact .inl (by decide +kernel) | exact .inr (by decide +kernel)) (by rw [isSubtype_type]; kernel_rfl)
theorem slot_set : Slot "bytearray" "__setitem__" "bytearray.__setitem__" :=
  .of (owner := "bytearray") (n := "__setitem__") (by rw [typeLookup_type, builtinLookup_eq_fast]; kernel_rfl) (by decide +kernel) (by decide +kernel) (by decide +kernel)
    (by first | exact .inl (by decide +kernel) | exact .inr (by decide +kernel)) (by rw [isSubtype_type]; kernel_rfl)
theorem sub : isSubtype (.type "bytearray") (.type "bytearray") = pure true := by rw [isSubtype_type]; kernel_rfl
theorem called : TypeCalled "bytearray" "bytearray.__new__" "bytearray.__init__" :=
  ⟨by decide +kernel, by decide +kernel, ⟨_, _, mro⟩, madeBy_type mro lookup_new (by decide +kernel), by decide +kernel, sub, slot_init⟩
theorem typeCall (a : Value) : checkTypeCall "bytearray" ⟨[a], []⟩ = pure () := by kernel_rfl
theorem newCall (a : Value) : checkBuiltinCall "bytearray.__new__" ⟨[.type "bytearray", a], []⟩ = pure () := by kernel_rfl
theorem plain_new : plainId "bytearray.__new__" = true := by decide +kernel
theorem plain_init : plainId "bytearray.__init__" = true := by decide +kernel
theorem entry_new : entryFor table "bytearray.__new__" = some Builtin.«list.__new__» := entryFor_alias (id' := "list.__new__") (by kernel_rfl) rfl (by decide +kernel) (by kernel_rfl)
theorem entry_init : entryFor table "bytearray.__init__" = some Builtin.«bytearray.__init__» := by first | exact entryFor_of_fast (by kernel_rfl) | exact entryFor_of_tree (by kernel_rfl)
theorem entry_set : entryFor table "bytearray.__setitem__" = some Builtin.«bytearray.__setitem__» := by first | exact entryFor_of_fast (by kernel_rfl) | exact entryFor_of_tree (by kernel_rfl)
theorem args_init (a b : Value) : argsOk "bytearray.__init__" ⟨[a, b], []⟩ := by unfold argsOk; kernel_rfl
theorem args_set (a b c : Value) : argsOk "bytearray.__setitem__" ⟨[a, b, c], []⟩ := by unfold argsOk; kernel_rfl
theorem look_release : typeLookup (.type "bytearray") "__release_buffer__" = pure (some (.builtin "bytearray.__release_buffer__")) := by rw [typeLookup_type, builtinLookup_eq_fast]; kernel_rfl
theorem look_buffer : typeLookup (.type "bytearray") "__buffer__" = pure (some (.builtin "bytearray.__buffer__")) := by rw [typeLookup_type, builtinLookup_eq_fast]; kernel_rfl
theorem noBytes : typeLookup (.type "bytearray") "__bytes__" = pure none := by rw [typeLookup_type, builtinLookup_eq_fast]; kernel_rfl
theorem noIndex : typeLookup (.type "bytearray") "__index__" = pure none := by rw [typeLookup_type, builtinLookup_eq_fast]; kernel_rfl
theorem bind1 (v : Value) : Builtin.Bytes.bindOptional "bytearray.__init__" "bytearray" ["source", "encoding", "errors"] [v] [] = pure [some v, none, none] := by kernel_rfl
set_option maxHeartbeats 4000000 in
theorem owner_new : ("bytearray.__new__".splitOn ".__new__").headD "" = "bytearray" := by simp +decide [String.splitOn, String.splitOnAux]
end BA

end Mine
end
section -- B1
namespace Mine
open PySem PySem.W PyProof.Rows
set_option maxRecDepth 100000

section
variable {prog : Program} {w : World} {A : Around} {E : Value → Shared → Prop} {s : Shared}

theorem code_new (a : Value) {Q₁ : Value → Shared → Prop}
    (h : Q₁ (.ref s.heap.objs.size) { s with heap := s.heap.push { cls := .type "bytearray", data := .bytearray #[] } }) :
    codeAny (model prog w) A (.call (.builtin "bytearray.__new__") ⟨[.type "bytearray", a], []⟩) (wants Q₁ E) s := by
  refine codeAny_of_tree ?_
  show wpAny _ A.in1 (do checkBuiltinCall "bytearray.__new__" ⟨[.type "bytearray", a], []⟩; again (.builtin "bytearray.__new__" ⟨[.type "bytearray", a], []⟩)) _ _ s
  refine wpAny_bind (wpAny_of_eq (BA.newCall a) (wpAny_pure ⟨plainId_quiet BA.plain_new _, codeAny_builtin_stack BA.entry_new rfl fun p st => ?_⟩))
  rw [Around.under_plainId BA.plain_new _]
  have hsub := BA.sub
  have hown := BA.owner_new
  obtain ⟨hp, g, d, tk, os⟩ := s
  simp only [hown]
  wp_walk
  exact h

/-- a bytearray's bytes -/
def IsBA (h : Heap) (a : Addr) (b : Array UInt8) : Prop := h.get? a = some { cls := .type "bytearray", data := .bytearray b }
theorem IsBA.typeIs {s : Shared} {a : Addr} {b : Array UInt8} (x : IsBA s.heap a b) : s.TypeIs (.ref a) "bytearray" := ⟨_, x, rfl⟩

theorem expo_b {id : String} {args : Args} (h : (["bytearray.__contains__", "bytearray.__mod__", "bytearray.__rmod__", "_struct.pack_into.held", "bytearray.find.held"].contains id || Builtin.Bytes.decodersThatHold.contains id) = false) : expo (.builtin id args) = false := h

theorem wpS_exported {M : Model} {self : Value} {Q : Bool → Shared → Prop} (h : Q false s) : wpS M A (Builtin.Bytes.exported self) Q E s := fun Γ p hΓ hc => by
  unfold Builtin.Bytes.exported
  rw [Sem.wp_bind']
  have e1 : ((Γ.code, p) :: Γ.below).any (exf self) = false := by
    rw [List.any_eq_false]
    rintro ⟨c, p⟩ hx
    have hx' : expo c = false := by
      rcases List.mem_cons.mp hx with h | h
      · cases h; exact hc.1
      · exact hc.2 (c, p) h
    rw [expo_of hx' self p]
    exact Bool.false_ne_true
  show Q (((Γ.code, p) :: Γ.below).any (exf self)) s
  rw [e1]
  exact h

theorem wp_write {M : Model} {S : Addr} {b : Array UInt8} {f : Array UInt8 → Array UInt8} {Q : Unit → Shared → Prop} (hS : IsBA s.heap S b) (hsz : (f b).size ≤ 1000)
    (h : ∀ h', IsBA h' S (f b) → Heap.SameBut S s.heap h' → Q () { s with heap := h' }) : wpAny M A (Builtin.Bytes.write (.ref S) f) Q E s := by
  show wpAny _ _ (updateBytearray S f) _ _ _
  unfold updateBytearray
  refine wpAny_bind (wpAny_load hS ?_)
  show wpAny _ _ (update S (Obj.mapBytearray f) >>= fun _ => lookBehind S) _ _ _
  refine wpAny_bind (wpAny_update hS ?_)
  have hS₂ : (s.heap.update S (Obj.mapBytearray f)).get? S = some { cls := .type "bytearray", data := .bytearray (f b) } := Heap.get?_update_self (Obj.mapBytearray f) hS rfl
  refine wpAny_lookBehind hS₂ ?_ ?_
  · show (if (f b).size > sizeLine then some "bytearray:memory" else none) = none
    have h5 : (1000 : Nat) ≤ sizeLine := by decide
    rw [if_neg]; omega
  · exact h _ hS₂ (Heap.SameBut.update ..)

/-- bytearray.__init__ of a count, where no code holds the new one -/
theorem init_S {S n : Nat} {t : Tok} {R : Result → Shared → Prop} (hn : n ≤ 1000) (h0 : 0 < n) (hS : IsBA s.heap S #[])
    (hR : ∀ h' tk, IsBA h' S (Array.replicate n 0) → (∀ b o, b ≠ S → s.heap.get? b = some o → h'.get? b = some o) → R (.ok (.ret .none)) { s with heap := h', toks := tk }) :
    wpS (model prog w) A.in1 (Builtin.«bytearray.__init__» ⟨[.ref S, .int n t], []⟩)
      (fun fin s' => match fin with | .done f => R (.ok f) s' | .again c' => c'.quiet = true ∧ expo c' = false ∧ codeS (model prog w) A c' R s') (fun e s' => R (.error e) s') s := by
  unfold Builtin.«bytearray.__init__»
  have hT := hS.typeIs
  have ea : asStr? (.int (n : Int) t) = pure none := rfl
  have ei : asIndex (.int (n : Int) t) = pure (n : Int) := rfl
  have hf : Builtin.Bytes.fitsIndex (n : Int) = true := by
    simp only [Builtin.Bytes.fitsIndex, Bool.and_eq_true, decide_eq_true_eq]; omega
  have hl : ¬ ((n : Int) < 0) := by omega
  have h63 : ((n : Int) == 2 ^ 63 - 1) = false := by rw [beq_eq_false_iff_ne]; omega
  have htl : Builtin.Bytes.tooLong (n : Int).toNat = false := by
    have h5 : (1000 : Nat) ≤ sizeLine := by decide
    simp only [Builtin.Bytes.tooLong, decide_eq_false_iff_not, Int.toNat_natCast]; omega
  have hgt : (n : Int) > 0 := by omega
  refine wpS_then ?_
  unfold Builtin.Bytes.ownRelease Builtin.Bytes.slotIsOwn
  refine wpAny_bind (wpAny_bind (wpAny_specialOf hT BA.look_release ?_))
  show wpAny _ _ (if (!"bytearray.__release_buffer__".endsWith ("." ++ "__release_buffer__")) = true then _ else _) _ _ _
  rw [if_neg (by decide +kernel), show ("bytearray.__release_buffer__".dropRight ("__release_buffer__".length + 1)) = "bytearray" from by decide +kernel]
  refine wpAny_isInstance hT BA.sub ?_
  refine wpAny_pure ?_
  show wpS _ _ (if (!true) = true then _ else _) _ _ _
  rw [if_neg (by decide)]
  refine wpS_then (wpAny_of_eq (BA.bind1 _) ?_)
  refine wpS_then (m := Builtin.Bytes.checkCodecArg "bytearray.__init__" "bytearray" "encoding" none) (wpAny_of_eq (a := ()) rfl ?_)
  refine wpS_then (m := Builtin.Bytes.checkCodecArg "bytearray.__init__" "bytearray" "errors" none) (wpAny_of_eq (a := ()) rfl ?_)
  refine wpS_bind ?_
  unfold orM
  refine wpS_bind (wpS_exported ?_)
  refine wpS_of ?_
  show wpAny _ _ (Builtin.Bytes.exportsOf (.ref S) >>= fun n => pure (decide (n > 0))) _ _ _
  unfold Builtin.Bytes.exportsOf
  refine wpAny_bind (wpAny_bind (wpAny_load hS ?_))
  refine wpAny_pure (wpAny_pure ?_)
  show wpS _ _ (if decide (0 > 0) = true then _ else _) _ _ _
  rw [if_neg (by decide)]
  refine wpS_of ?_
  refine wpAny_bind (wp_write hS (by decide) fun h1 hS1 hs1 => ?_)
  show wpAny _ _ (asStr? (.int (n : Int) t) >>= _) _ _ _
  have es : specialOf (.int (n : Int) t) (Str.ofString "__index__") = pure (some (.builtin "int.__index__")) := by
    have e := F.slot_int_index.lookup
    simp only [specialOf]
    show (typeOf (.int (n : Int) t) >>= fun x => typeLookup x (Str.ofString "__index__")) = _
    have et : typeOf (.int (n : Int) t) = pure (.type "int") := rfl
    rw [et, pure_bind]
    exact e
  have eat : (asIndex (.int (n : Int) t)).attempt = pure (.ok (n : Int)) := rfl
  rw [ea, pure_bind, if_neg (by decide)]
  rw [if_neg (by decide), if_neg (by decide)]
  show wpAny _ _ ((pure () : Sem Unit) >>= _) _ _ _
  rw [pure_bind, es, pure_bind]
  show wpAny _ _ (if (some (Value.builtin "int.__index__")).isSome = true then _ else _) _ _ _
  rw [if_pos (show (some (Value.builtin "int.__index__")).isSome = true from rfl), eat, pure_bind]
  show wpAny _ _ (if (!Builtin.Bytes.fitsIndex (n : Int)) = true then _ else _) _ _ _
  rw [hf, if_neg (by decide), if_neg hl, h63, if_neg (by decide), htl, if_neg (by decide)]
  refine wpAny_bind ?_
  intro Γ p hΓ
  refine wpAny_rule ?_ Γ p hΓ
  rw [if_pos hgt]
  refine wpAny_bind ?_
  refine wp_write hS1 (by simp; omega) fun h2 hS2 hs2 => ?_
  refine wpAny_pure ?_
  exact hR h2 _ (by simpa using hS2) fun b o hb e => hs2.extBut b o hb (hs1.extBut b o hb e)

set_option maxHeartbeats 2000000 in
theorem call_bytearrayS {n : Nat} {t : Tok} {Q : Value → Shared → Prop} (hn : n ≤ 1000) (h0 : 0 < n)
    (hQ : ∀ a h' tk, s.heap.objs.size ≤ a → IsBA h' a (Array.replicate n 0) → Kp s.heap h' → Q (.ref a) { s with heap := h', toks := tk }) :
    wpS (model prog w) A (call (.type "bytearray") [.int n t]) Q E s := by
  refine wpS_call (codeS_of_tree ?_)
  show wpS _ _ (callAny (.type "bytearray") _) _ _ _
  refine wpS_of (wpAny_pure ⟨Code.quiet_builtin _ (by decide +kernel), expo_b (by decide +kernel), codeS_builtin F.entry_type_call ?_⟩)
  rw [Around.under_plain (weight_type_call_type "bytearray" _ []) rfl]
  unfold Builtin.«type.__call__»
  have h1 := BA.called.notType
  have h2 := BA.called.canCreate
  simp only [h1, h2]
  rw [if_neg (by decide), if_neg (by decide)]
  refine wpS_then (wpAny_of_eq (BA.typeCall _) ?_)
  refine wpS_then (wpAny_of_eq BA.mro ?_)
  rw [if_neg (by decide)]
  refine wpS_then (wpAny_of_eq BA.called.made ?_)
  dsimp only
  refine wpS_then (wpAny_pure ?_)
  refine wpS_then (wpAny_holding (wpAny_call (codeAny_mono (code_new (.int n t) (Q₁ := fun v s' => v = .ref s.heap.objs.size ∧ s' = { s with heap := s.heap.push { cls := .type "bytearray", data := .bytearray #[] } }) (E := fun _ _ => False) ⟨rfl, rfl⟩) fun r s₁ hr => ?_)))
  cases r with
  | error e => exact hr.elim
  | ok fl =>
    cases fl with
    | ret obj =>
      obtain ⟨rfl, rfl⟩ := hr
      dsimp only
      have hB : IsBA (s.heap.push { cls := .type "bytearray", data := .bytearray #[] }) s.heap.objs.size #[] := Heap.get?_push_size _ rfl
      have hT : ({ s with heap := s.heap.push { cls := .type "bytearray", data := .bytearray #[] } } : Shared).TypeIs (.ref s.heap.objs.size) "bytearray" := IsBA.typeIs (s := { s with heap := s.heap.push { cls := .type "bytearray", data := .bytearray #[] } }) hB
      refine wpS_then (wpAny_isInstance hT BA.sub ?_)
      rw [if_neg (by decide)]
      refine wpS_bind (wpS_holding ?_)
      simp only [callSpecial?]
      refine wpS_then (wpAny_specialOf hT BA.slot_init.lookup ?_)
      simp only [BA.slot_init.bind]
      refine wpS_holding (wpS_then (wpAny_pure ?_))
      refine wpS_bind (wpS_call (codeS_mono (R := fun r s' => ∃ h' tk, r = .ok (.ret .none) ∧ s' = { s with heap := h', toks := tk } ∧ IsBA h' s.heap.objs.size (Array.replicate n 0) ∧ Kp s.heap h') ?_ fun r s' hr => ?_))
      · refine codeS_of_tree ?_
        show wpS _ A.in1.in1 (do checkBuiltinCall "bytearray.__init__" ⟨[.ref s.heap.objs.size, .int n t], []⟩; again (.builtin "bytearray.__init__" ⟨[.ref s.heap.objs.size, .int n t], []⟩)) _ _ _
        refine wpS_then (BA.slot_init.check _ _ _ _ _ _ _ _ hT (BA.args_init _ _) ?_)
        refine wpS_of (wpAny_pure ⟨plainId_quiet BA.plain_init _, expo_b (by decide +kernel), codeS_builtin BA.entry_init ?_⟩)
        rw [Around.under_plainId BA.plain_init _]
        exact init_S (s := { s with heap := s.heap.push { cls := .type "bytearray", data := .bytearray #[] } }) (R := fun r s' => ∃ h' tk, r = .ok (.ret .none) ∧ s' = { s with heap := h', toks := tk } ∧ IsBA h' s.heap.objs.size (Array.replicate n 0) ∧ Kp s.heap h') hn h0 hB
          fun h' tk hB' hk => ⟨h', tk, rfl, rfl, hB', fun b o e => hk b o (Nat.ne_of_lt (Heap.lt_size e)) (Heap.get?_push_of_some _ e)⟩
      obtain ⟨h', tk, rfl, rfl, hB', hk⟩ := hr
      dsimp only
      refine wpS_of (wpAny_pure ?_)
      dsimp only
      rw [if_neg (by decide)]
      refine wpS_of (wpAny_pure ?_)
      exact hQ _ h' tk (Nat.le_refl _) hB' hk
    | _ => exact hr.elim
end
end Mine
end
section -- B2
namespace Mine
open PySem PySem.W PyProof.Rows
set_option maxRecDepth 100000

section
variable {prog : Program} {w : World} {A : Around} {E : Value → Shared → Prop} {s : Shared}

theorem spec_int (n : Int) (t : Tok) : specialOf (.int n t) (Str.ofString "__index__") = pure (some (.builtin "int.__index__")) := by
  have e := F.slot_int_index.lookup
  simp only [specialOf]
  show (typeOf (.int n t) >>= fun x => typeLookup x (Str.ofString "__index__")) = _
  have et : typeOf (.int n t) = pure (.type "int") := rfl
  rw [et, pure_bind]
  exact e
theorem sub_int' {k : Int} {t : Tok} (h0 : 0 ≤ k) (h1 : k < 1000) : Builtin.Bytes.subscript? (.int k t) = pure (some k) := by
  unfold Builtin.Bytes.subscript?
  rw [spec_int, pure_bind, if_neg (by decide), show asIndex (.int k t) = pure k from rfl, pure_bind]
  have hf : Builtin.Bytes.fitsIndex k = true := by simp only [Builtin.Bytes.fitsIndex, Bool.and_eq_true, decide_eq_true_eq]; omega
  rw [hf, if_neg (by decide)]
theorem byte_int {k : Int} {t : Tok} (h0 : 0 ≤ k) (h1 : k < 256) : Builtin.Bytes.byteValue (.int k t) = pure k.toNat.toUInt8 := by
  unfold Builtin.Bytes.byteValue
  rw [show asIndex (.int k t) = pure k from rfl, pure_bind, if_neg (by simp only [Bool.or_eq_true, decide_eq_true_eq]; omega)]

/-- a[k] = v -/
theorem setItem_ba {S : Addr} {b : Array UInt8} {k v : Int} {t u : Tok} {Q : Unit → Shared → Prop} (hS : IsBA s.heap S b) (h0 : 0 ≤ k) (hk : k < b.size) (hb : b.size ≤ 1000) (hv0 : 0 ≤ v) (hv : v < 256)
    (hQ : ∀ h', IsBA h' S (b.setIfInBounds k.toNat v.toNat.toUInt8) → Heap.SameBut S s.heap h' → Q () { s with heap := h' }) :
    wpAny (model prog w) A (setItem (.ref S) (.int k t) (.int v u)) Q E s := by
  have hT := hS.typeIs
  unfold setItem
  refine wpAny_holding ?_
  refine wpAny_bind (wpAny_sequenceKey hT (by decide) ?_)
  refine wpAny_bind (wpAny_callSpecial?_slot (name := Str.ofString "__setitem__") hT BA.slot_set (wpAny_call_entry BA.slot_set hT BA.entry_set ?_ (BA.args_set _ _ _)))
  unfold Builtin.«bytearray.__setitem__»
  show wpAny _ _ (Builtin.Bytes.subscript? (.int k t) >>= _) _ _ _
  rw [sub_int' h0 (by omega), pure_bind]
  show wpAny _ _ (Builtin.Bytes.byteValue (.int v u) >>= _) _ _ _
  rw [byte_int hv0 hv, pure_bind]
  show wpAny _ _ (Builtin.Bytes.payload (.ref S) >>= _) _ _ _
  unfold Builtin.Bytes.payload Builtin.Bytes.payload?
  refine wpAny_bind (wpAny_bind (wpAny_bind (wpAny_load hS ?_)))
  refine wpAny_pure (wpAny_pure ?_)
  have hi : seqIndex? k b.size = some k.toNat := by
    unfold seqIndex?
    have e : (if k < 0 then k + (b.size : Int) else k) = k := if_neg (by omega)
    simp only [e]
    rw [if_pos (by simp only [Bool.and_eq_true, decide_eq_true_eq]; omega)]
  rw [hi]
  show wpAny _ _ (Builtin.Bytes.write (.ref S) (fun x => x.setIfInBounds k.toNat v.toNat.toUInt8) >>= _) _ _ _
  refine wpAny_bind (wp_write hS (by simpa using hb) fun h' hS' hs' => ?_)
  exact wpAny_pure ⟨_, rfl, wpAny_pure (hQ h' hS' hs')⟩

theorem split_buffer : ("bytearray.__buffer__".endsWith ("." ++ "__buffer__")) = true := by decide +kernel
theorem drop_buffer : ("bytearray.__buffer__".dropRight ("__buffer__".length + 1)) = "bytearray" := by decide +kernel
theorem split_release : ("bytearray.__release_buffer__".endsWith ("." ++ "__release_buffer__")) = true := by decide +kernel
theorem drop_release : ("bytearray.__release_buffer__".dropRight ("__release_buffer__".length + 1)) = "bytearray" := by decide +kernel

theorem own_release {S : Addr} {b : Array UInt8} {Q : Bool → Shared → Prop} (hS : IsBA s.heap S b) (h : Q false s) : wpAny (model prog w) A (Builtin.Bytes.ownRelease (.ref S)) Q E s := by
  have hT := hS.typeIs
  unfold Builtin.Bytes.ownRelease Builtin.Bytes.slotIsOwn
  refine wpAny_bind (wpAny_bind (wpAny_specialOf hT BA.look_release ?_))
  show wpAny _ _ (if (!"bytearray.__release_buffer__".endsWith ("." ++ "__release_buffer__")) = true then _ else _) _ _ _
  rw [split_release, if_neg (by decide), drop_release]
  exact wpAny_isInstance hT BA.sub (wpAny_pure h)
theorem own_buffer {S : Addr} {b : Array UInt8} {Q : Bool → Shared → Prop} (hS : IsBA s.heap S b) (h : Q true s) : wpAny (model prog w) A (Builtin.Bytes.slotIsOwn (.ref S) "__buffer__") Q E s := by
  have hT := hS.typeIs
  unfold Builtin.Bytes.slotIsOwn
  refine wpAny_bind (wpAny_specialOf hT BA.look_buffer ?_)
  show wpAny _ _ (if (!"bytearray.__buffer__".endsWith ("." ++ "__buffer__")) = true then _ else _) _ _ _
  rw [split_buffer, if_neg (by decide), drop_buffer]
  exact wpAny_isInstance hT BA.sub h
theorem buffer_ba {id : String} {full : Bool} {S : Addr} {b : Array UInt8} {Q : Option (Array UInt8) → Shared → Prop} (hS : IsBA s.heap S b) (h : Q (some b) s) : wpAny (model prog w) A (Builtin.Bytes.buffer? id (.ref S) full) Q E s := by
  have hT := hS.typeIs
  unfold Builtin.Bytes.buffer?
  refine wpAny_bind (wpAny_specialOf hT BA.look_buffer ?_)
  show wpAny _ _ (Builtin.Bytes.slotIsOwn (.ref S) "__buffer__" >>= _) _ _ _
  refine wpAny_bind (own_buffer hS ?_)
  show wpAny _ _ (if (!true) = true then _ else _) _ _ _
  rw [if_neg (by decide)]
  refine wpAny_bind (wpAny_specialOf hT BA.look_buffer ?_)
  show wpAny _ _ (Builtin.Bytes.ownRelease (.ref S) >>= _) _ _ _
  refine wpAny_bind (own_release hS ?_)
  show wpAny _ _ (if false = true then _ else _) _ _ _
  rw [if_neg (by decide)]
  unfold Builtin.Bytes.payload Builtin.Bytes.payload?
  refine wpAny_bind (wpAny_bind (wpAny_bind (wpAny_load hS ?_)))
  exact wpAny_pure (wpAny_pure (wpAny_pure h))

theorem bytes_new {S : Addr} {b : Array UInt8} {Q : Value → Shared → Prop} (hS : IsBA s.heap S b) (hb : b.size ≤ 1000)
    (hQ : ∀ t k, Q (.bytes b t) { s with toks := k }) :
    codeAny (model prog w) A (.call (.builtin "bytes.__new__") ⟨[.type "bytes", .ref S], []⟩) (wants Q E) s := by
  refine codeAny_of_tree ?_
  show wpAny _ A.in1 (do checkBuiltinCall "bytes.__new__" ⟨[.type "bytes", .ref S], []⟩; again (.builtin "bytes.__new__" ⟨[.type "bytes", .ref S], []⟩)) _ _ s
  refine wpAny_bind (wpAny_of_eq (F.bm_newCall _) (wpAny_pure ⟨plainId_quiet F.bm_plain _, codeAny_builtin F.bm_entry ?_⟩))
  rw [Around.under_plainId F.bm_plain _]
  have hT := hS.typeIs
  unfold Builtin.«bytes.__new__»
  refine wpAny_bind (wpAny_of_eq (a := true) rfl ?_)
  refine bm_if_false rfl ?_
  refine wpAny_bind (wpAny_of_eq F.bm_sub ?_)
  refine bm_if_false rfl ?_
  refine wpAny_bind (wpAny_of_eq (F.bm_bind _) ?_)
  refine wpAny_bind (wpAny_of_eq (a := ()) rfl ?_)
  refine wpAny_bind (wpAny_of_eq (a := ()) rfl ?_)
  refine bm_if_false rfl ?_
  refine wpAny_bind (wpAny_specialOf hT BA.noBytes ?_)
  refine wpAny_bind (wpAny_bind ?_)
  show wpAny _ _ (load S >>= _) _ _ _
  refine wpAny_bind (wpAny_load hS ?_)
  refine wpAny_pure (wpAny_pure ?_)
  refine bm_if_false rfl ?_
  refine wpAny_bind (wpAny_specialOf hT BA.noIndex ?_)
  refine bm_if_true rfl ?_
  first
    | show wpAny _ _ (Builtin.Bytes.buffer? "bytes.__new__" (.ref S) true >>= _) _ _ _
    | (refine wpAny_bind ?_; show wpAny _ _ (Builtin.Bytes.buffer? "bytes.__new__" (.ref S) true >>= _) _ _ _)
  refine wpAny_bind (buffer_ba hS ?_)
  show wpAny _ _ (rule "bytes.__new__.bytes-like" >>= _) _ _ _
  refine wpAny_bind (wpAny_rule ?_)
  have h5 : (1000 : Nat) ≤ sizeLine := by decide
  refine wpAny_bind (wpAny_mkBytes ?_ (by omega))
  show wpAny _ _ (if (Value.type "bytes" == Value.type "bytes") = true then _ else _) _ _ _
  refine bm_if_true (by decide) ?_
  first
    | exact wpAny_pure (hQ _ _)
    | exact wpAny_bind (wpAny_pure (wpAny_pure (hQ _ _)))

theorem call_bytes_ba {S : Addr} {b : Array UInt8} {Q : Value → Shared → Prop} (hS : IsBA s.heap S b) (hb : b.size ≤ 1000)
    (hQ : ∀ t k, Q (.bytes b t) { s with toks := k }) : wpAny (model prog w) A (call (.type "bytes") [.ref S]) Q E s := by
  refine callType_codes (Q₁ := fun obj s₁ => s₁.TypeIs obj "bytes" ∧ Q obj s₁) F.bm_called (F.bm_typeCall _) F.entry_object_init
    (bytes_new hS hb fun t k => ⟨PySem.W.typeIs_bytes _ _ _, hQ t k⟩) fun obj s₁ h₁ => ?_
  exact ⟨h₁.1, F.args_object_init_2 obj _, object_init_meets F.bm_called.init.lookup F.bm_called.made (by decide) prog w A.in1 _ s₁ ⟨h₁.1, rfl, h₁.2⟩⟩
end
end Mine
end
section -- B3
namespace Mine
open PySem PySem.W PyProof.Rows
set_option maxRecDepth 100000

theorem set_turn (l : List UInt8) (j : Nat) (x : UInt8) (hj : l[j]? = some x) :
    ((List.replicate (l.length - j) (0 : UInt8) ++ (l.take j).reverse).toArray).setIfInBounds (l.length - 1 - j) x = (List.replicate (l.length - (j + 1)) (0 : UInt8) ++ (l.take (j + 1)).reverse).toArray := by
  have hlt : j < l.length := (List.getElem?_eq_some_iff.mp hj).1
  rw [take_next hj, List.reverse_append, ← Array.toList_inj]
  simp only [Array.toList_setIfInBounds, List.reverse_cons, List.reverse_nil, List.nil_append, List.cons_append]
  have e : l.length - j = (l.length - (j + 1)) + 1 := by omega
  have e2 : l.length - 1 - j = l.length - (j + 1) := by omega
  rw [e, e2, List.replicate_succ', List.append_assoc, List.set_append_right _ _ (by simp)]
  simp

section
variable {prog : Program} {w : World} {A : Around} {E : Value → Shared → Prop} {s : Shared} {mg mb : Str → Option Value}

theorem range_walk {target : PySem.Expr} {body : List Stmt} {env : Env} {r : Addr} {a b c : Int} {t u v : Tok} {n : Nat} {Q : Flow → Shared → Prop} (hh : A.handled = none) (hr : IsRange s.heap r a b c t u v) (hsm : Builtin.Range.small a b c = true) (hn : Builtin.Range.rangeSize a b c = (n : Nat))
    (hgo : ∀ I v, letOwnedTupleGo target (.ref I) v = pure ()) (Inv : Addr → Nat → Shared → Prop) (h0 : ∀ h', Kp s.heap h' → Inv s.heap.objs.size 0 { s with heap := h' })
    (hnext : ∀ I i s' h' tk, I = s.heap.objs.size → Inv I i s' → (∀ b o, b ≠ I → s'.heap.get? b = some o → h'.get? b = some o) → Inv I i { s' with heap := h', toks := tk })
    (step : ∀ I i t s₁ oI, I = s.heap.objs.size → i < n → Inv I i s₁ → s₁.heap.get? I = some oI → wpAny (model prog w) A (assign target env (.int (a + (i : Nat) * c) t)) (fun _ s₂ => wpAny (model prog w) A (execs body env) (fun f s₃ => f = .next ∧ Inv I (i + 1) s₃ ∧ s₃.heap.get? I = some oI) No s₂) No s₁)
    (hR : ∀ I s', Inv I n s' → Q .next s') :
    wpAny (model prog w) A (pyIter (.ref r)) (fun it s₂ => codeAny (model prog w) A (.forLoop target it body [] env) (fun r s' => match r with | .ok f => Q f s' | .error e => cameBackBy (model prog w) A env E e s') s₂) E s := by
  refine wpAny_pyIter_range hr hsm ?_
  rw [hn]
  refine for_walk (Walks.range hh s.heap.objs.size a c n) (fun v => hgo _ v) (fun i s' => Inv s.heap.objs.size i s') ?_ (h0 _ fun b o e => Heap.get?_push_of_some _ e) (fun i s' h' tk hI hk => hnext _ i s' h' tk rfl hI fun b o hb e => hk b o (by simpa using hb) e) ?_ (fun s' hI => hR _ s' hI)
  · have := Heap.get?_push_size s.heap (o := { cls := .type "range_iterator", data := .fields #[rawInt a, rawInt (n : Nat), rawInt c] }) rfl
    simpa using this
  · rintro i v s₁ hi ⟨ti, rfl⟩ hI hst
    refine wpAny_mono (step _ i ti s₁ _ rfl hi hI hst) (fun _ s₂ h₂ => wpAny_mono h₂ (fun f s₃ h₃ => ?_) fun _ _ x => x) fun _ _ x => x
    obtain ⟨rfl, hI', ho⟩ := h₃
    refine ⟨rfl, hI', fun b hb o e => ?_⟩
    rw [List.mem_singleton.mp hb] at e ⊢
    have q := Option.some.inj (e.symm.trans hst)
    rw [q]; exact ho

set_option maxHeartbeats 8000000 in
theorem call_swap {a : Addr} {cdv : Value} {l : List UInt8} {tb tn : Tok} {R : Result → Shared → Prop} (F : FnAt s.heap a "_byteswap" 9 cdv) (W : Wd mg mb s.heap) (rm : Rm A 2) (hn : l.length = 4 ∨ l.length = 5)
    (h : ∀ t h' tk, Kp s.heap h' → R (.ok (.ret (.bytes l.reverse.toArray t))) { s with heap := h', toks := tk }) :
    codeS (model prog w) A (.call (.ref a) ⟨[.bytes l.toArray tb, .int (l.length : Nat) tn], []⟩) R s := by
  refine wp_enterS (binds := [("data", .bytes l.toArray tb), ("width", .int (l.length : Nat) tn)]) F W rm.room (fun _ _ _ _ => by rfl) ?_ fun s₁ x => ?_
  · intro x hx
    simp only [List.mem_cons, List.not_mem_nil, or_false] at hx
    rcases hx with rfl | rfl
    · exact .inl rfl
    · exact .inl rfl
  generalize hL : s.heap.objs.size = L at x ⊢
  have rm' := rm.deeper (envOfC "_byteswap" (scopeOf 9) L a cdv)
  generalize hA : A.deeper (envOfC "_byteswap" (scopeOf 9) L a cdv) = A' at rm' ⊢
  have hh : A'.handled = none := rm'.hh
  have x0 : DSt prog w s L (cellsFrom (L + 1) (scopeOf 9).names []) _ _ [] [] s₁ := ⟨x, (fun p hp => nomatch hp), (fun p hp => nomatch hp)⟩
  have hcs : cellsFrom (L + 1) (scopeOf 9).names [] = [] := by rfl
  have W1 := W.keeps x0.keep
  have hlen : l.toArray.size = l.length := by simp
  refine wpS_execs_cons (wpS_Assign_Name ?_)
  refine wpS_Call (nb W1 W.f_bytearray PyProof.Rows.Boot.«bytearray» ?_)
  refine wpS_callWith_type ?_
  refine args_cons ?_
  refine Call_ (nb W1 W.f_len PyProof.Rows.Boot.«len» ?_)
  refine PyProof.Rows.callWith_builtin1 ?_
  refine args_cons ?_
  refine nm x0.ns rfl ?_
  refine args_nil ?_
  refine PySem.W.len_bytes (by rw [hlen]; omega) ?_
  refine args_nil ?_
  rw [hlen]
  refine call_bytearrayS (by omega) (by omega) fun S h2 tk2 hS2 hB2 hk2 => ?_
  have x2 := x0.grow (tk := tk2) hk2
  have hSL : S ≠ L := Nat.ne_of_gt (Nat.lt_of_lt_of_le x0.lt hS2)
  have hSc : ∀ n c, (cellsFrom (L + 1) (scopeOf 9).names []).lookup n = some c → S ≠ c := fun n c hc => absurd hc (by rw [hcs]; simp)
  have hS0 : s.heap.get? S = none := fresh_none (Nat.le_trans (Nat.le_of_lt (hL ▸ x0.lt)) hS2)
  refine wpAny_mono (x2.watch hB2 hSL hSc |>.store (env := envOfC "_byteswap" (scopeOf 9) L a cdv) (n := "swapped_data") (v := .ref S) (Q := fun _ s3 => ∃ m, DSt prog w s L (cellsFrom (L + 1) (scopeOf 9).names []) m _ [] [] s3 ∧ IsBA s3.heap S (Array.replicate l.length 0) ∧ m (Str.ofString "swapped_data") = some (.ref S) ∧ m (Str.ofString "data") = some (.bytes l.toArray tb) ∧ m (Str.ofString "width") = some (.int (l.length : Nat) tn)) rfl rfl fun s3 x3 => ⟨_, x3.unwatch, (x3.ob _ (.head _)).1, rfl, rfl, rfl⟩) (fun _ s3 h3 => ?_) fun _ _ x => x
  obtain ⟨m3, x3, hB3, hm1, hm2, hm3⟩ := h3
  refine wpS_of ?_
  have W3 := W.keeps x3.keep
  -- for i in range(0, len(data), width)
  refine wpAny_execs_cons (wpAny_For ?_)
  refine Call_ (nb W3 W.f_range PyProof.Rows.Boot.«range» ?_)
  refine PyProof.Rows.callWith_type1 ?_
  refine args_cons ?_
  refine wpAny_Constant_int ?_
  refine args_cons ?_
  refine Call_ (nb W3 W.f_len PyProof.Rows.Boot.«len» ?_)
  refine PyProof.Rows.callWith_builtin1 ?_
  refine args_cons ?_
  refine nm x3.ns hm2 ?_
  refine args_nil ?_
  refine PySem.W.len_bytes (by rw [hlen]; omega) ?_
  rw [hlen]
  refine args_cons ?_
  refine nm x3.ns hm3 ?_
  refine args_nil ?_
  refine call_range_3 (by omega) ?_ (Or.inl (PyProof.noPylong_small (by omega)))
  have hsm : Builtin.Range.small 0 (l.length : Nat) (l.length : Nat) = true := by rcases hn with e | e <;> rw [e] <;> decide
  have hrs : Builtin.Range.rangeSize 0 (l.length : Nat) (l.length : Nat) = 1 := by rcases hn with e | e <;> rw [e] <;> decide
  have hsm2 : Builtin.Range.small 0 (l.length : Nat) 1 = true := by rcases hn with e | e <;> rw [e] <;> decide
  have hrs2 : Builtin.Range.rangeSize 0 (l.length : Nat) 1 = (l.length : Nat) := by rcases hn with e | e <;> rw [e] <;> decide
  have hkp : ∀ o1, Kp s3.heap (s3.heap.push o1) := fun o1 b o e => Heap.get?_push_of_some _ e
  have hSlt : S < s3.heap.objs.size := Heap.lt_size hB3
  have hl0 : 0 < l.length := by omega
  refine range_walk (n := 1) hh (a := 0) (b := (l.length : Nat)) (c := (l.length : Nat)) (Heap.get?_push_size _ rfl) hsm hrs (fun I v => by rfl)
    (fun I i s' => s3.heap.objs.size < I ∧ ∃ m cm, DSt prog w s L (cellsFrom (L + 1) (scopeOf 9).names []) m cm [] [] s' ∧ IsBA s'.heap S (if i = 0 then Array.replicate l.length 0 else l.reverse.toArray) ∧
    m (Str.ofString "swapped_data") = some (.ref S) ∧ m (Str.ofString "data") = some (.bytes l.toArray tb) ∧ m (Str.ofString "width") = some (.int (l.length : Nat) tn)) ?_ ?_ ?_ ?_
  · intro h' hk'
    refine ⟨by show s3.heap.objs.size < (s3.heap.push _).objs.size; rw [Heap.size_push]; exact Nat.lt_succ_self _, m3, _, x3.grow fun b o e => hk' b o (hkp _ b o e), hk' _ _ (hkp _ _ _ hB3), hm1, hm2, hm3⟩
  · rintro I i s' h' tk - ⟨hI, m, cm, y, hB, hm⟩ hk
    refine ⟨hI, m, cm, y.other (I := I) hk ?_ ?_ ?_ (fun p hp => nomatch hp) (fun p hp => nomatch hp), hk _ _ (Nat.ne_of_lt (Nat.lt_trans hSlt hI)) hB, hm⟩
    · exact fresh_none (Nat.le_of_lt (Nat.lt_trans (hL ▸ x3.lt) hI))
    · exact Nat.ne_of_gt (Nat.lt_trans x3.lt hI)
    · exact fun n c hc => absurd hc (by rw [hcs]; simp)
  · rintro I i ti s5 oI - hi ⟨hI, m, cm, y, hB, hm1, hm2, hm3⟩ hoI
    have hi0 : i = 0 := by omega
    subst hi0
    rw [if_pos rfl] at hB
    have hIL : I ≠ L := Nat.ne_of_gt (Nat.lt_trans x3.lt hI)
    have hIc : ∀ n c, (cellsFrom (L + 1) (scopeOf 9).names []).lookup n = some c → I ≠ c := fun n c hc => absurd hc (by rw [hcs]; simp)
    have hSI : S ≠ I := Nat.ne_of_lt (Nat.lt_trans hSlt hI)
    rw [show (0 : Int) + ((0 : Nat) : Int) * (l.length : Nat) = 0 from by simp]
    refine wpAny_assign_Name ?_
    refine ((y.watch hoI hIL hIc).watch hB hSL hSc).store (env := envOfC "_byteswap" (scopeOf 9) L a cdv) rfl rfl fun s6 y6 => ?_
    have hB6 : IsBA s6.heap S (Array.replicate l.length 0) := (y6.ob _ (.head _)).1
    have y6' := y6.unwatch
    have W6 := W.keeps y6.keep
    have hS6 : S < s6.heap.objs.size := Heap.lt_size hB6
    have hI6 : I < s6.heap.objs.size := Heap.lt_size (y6'.ob _ (.head _)).1
    -- for j in range(width)
    refine wpAny_execs_cons (wpAny_For ?_)
    refine Call_ (nb W6 W.f_range PyProof.Rows.Boot.«range» ?_)
    refine PyProof.Rows.callWith_type1 ?_
    refine args_cons ?_
    refine nm y6.ns (show _ = some (Value.int (l.length : Nat) tn) from hm3) ?_
    refine args_nil ?_
    refine call_range_1 ?_
    refine range_walk (n := l.length) hh (a := 0) (b := (l.length : Nat)) (c := 1) (Heap.get?_push_size _ rfl) hsm2 hrs2 (fun I v => by rfl)
      (fun I2 j s' => s6.heap.objs.size < I2 ∧ ∃ m cm, DSt prog w s L (cellsFrom (L + 1) (scopeOf 9).names []) m cm [] [(I, oI)] s' ∧ IsBA s'.heap S (List.replicate (l.length - j) (0 : UInt8) ++ (l.take j).reverse).toArray ∧
      m (Str.ofString "swapped_data") = some (.ref S) ∧ m (Str.ofString "data") = some (.bytes l.toArray tb) ∧ m (Str.ofString "width") = some (.int (l.length : Nat) tn) ∧ ∃ t0, m (Str.ofString "i") = some (.int 0 t0)) ?_ ?_ ?_ ?_
    · intro h' hk'
      have hk6 : Kp s6.heap h' := fun b o e => hk' b o (Heap.get?_push_of_some _ e)
      refine ⟨by show s6.heap.objs.size < (s6.heap.push _).objs.size; rw [Heap.size_push]; exact Nat.lt_succ_self _, _, _, y6'.grow hk6, ?_, hm1, hm2, hm3, _, rfl⟩
      have := hk6 _ _ hB6
      simpa [IsBA] using this
    · rintro I2 j s' h' tk - ⟨hI2, m, cm, z, hB, hm⟩ hk
      refine ⟨hI2, m, cm, z.other (I := I2) hk ?_ ?_ ?_ (fun p hp => nomatch hp) ?_, hk _ _ (Nat.ne_of_lt (Nat.lt_trans hS6 hI2)) hB, hm⟩
      · exact fresh_none (Nat.le_of_lt (Nat.lt_trans (hL ▸ y6.lt) hI2))
      · exact Nat.ne_of_gt (Nat.lt_trans y6.lt hI2)
      · exact fun n c hc => absurd hc (by rw [hcs]; simp)
      · intro p hp
        rw [List.mem_singleton.mp hp]
        exact Nat.ne_of_lt (Nat.lt_trans hI6 hI2)
    · rintro I2 j tj s8 oI2 - hj ⟨hI2, m, cm, z, hB, hm1, hm2, hm3, t0, hm4⟩ hoI2
      rw [show (0 : Int) + ((j : Nat) : Int) * 1 = (j : Int) from by simp]
      have hI2L : I2 ≠ L := Nat.ne_of_gt (Nat.lt_trans y6.lt hI2)
      have hI2c : ∀ n c, (cellsFrom (L + 1) (scopeOf 9).names []).lookup n = some c → I2 ≠ c := fun n c hc => absurd hc (by rw [hcs]; simp)
      have hSI2 : S ≠ I2 := Nat.ne_of_lt (Nat.lt_trans hS6 hI2)
      refine wpAny_assign_Name ?_
      refine ((z.watch hoI2 hI2L hI2c).watch hB hSL hSc).store (env := envOfC "_byteswap" (scopeOf 9) L a cdv) rfl rfl fun s9 z9 => ?_
      have hB9 := (z9.ob _ (.head _)).1
      have z9' := z9.unwatch
      refine wpAny_execs_cons (wpAny_Assign_Subscript ?_)
      refine Subscript_ ?_
      refine nm z9.ns (show _ = some (Value.bytes l.toArray tb) from hm2) ?_
      refine wpAny_BinOp ?_
      refine nm z9.ns (show _ = some (Value.int 0 t0) from hm4) ?_
      refine nm z9.ns (show _ = some (Value.int j tj) from rfl) ?_
      refine PyProof.Rows.add_int ?_
      refine KBy.item_N (by omega) (by omega) (by omega) ?_
      refine nm z9.ns (show _ = some (Value.ref S) from hm1) ?_
      refine wpAny_BinOp ?_
      refine wpAny_BinOp ?_
      refine wpAny_BinOp ?_
      refine nm z9.ns (show _ = some (Value.int 0 t0) from hm4) ?_
      refine nm z9.ns (show _ = some (Value.int (l.length : Nat) tn) from hm3) ?_
      refine PyProof.Rows.add_int ?_
      refine wpAny_Constant_int ?_
      refine PyProof.Rows.sub_int ?_
      refine nm z9.ns (show _ = some (Value.int j tj) from rfl) ?_
      refine PyProof.Rows.sub_int ?_
      have hsz : (List.replicate (l.length - j) (0 : UInt8) ++ (l.take j).reverse).toArray.size = l.length := by simp; omega
      have hx : (0 : Int) + (j : Int) = (j : Int) := by omega
      have hk1 : ((0 : Int) + (l.length : Nat) - 1 - (j : Int)).toNat = l.length - 1 - j := by omega
      refine setItem_ba hB9 (by omega) (by rw [hsz]; omega) (by rw [hsz]; omega) (by omega) (by have := (l.getD ((0 : Int) + (j : Int)).toNat 0).toNat_lt; omega) fun h' hB' hs' => ?_
      refine wpAny_execs_nil ?_
      refine ⟨rfl, ⟨hI2, _, _, (z9'.unwatch).other (I := S) hs'.extBut hS0 hSL hSc (fun p hp => nomatch hp) fun p hp => ?_, ?_, hm1, hm2, hm3, t0, hm4⟩, ?_⟩
      · rw [List.mem_singleton.mp hp]; exact Ne.symm hSI
      · rw [hk1] at hB'
        have hlj : l[j]? = some (l.getD j 0) := by
          rw [List.getD_eq_getElem?_getD, List.getElem?_eq_getElem hj]; rfl
        rw [show ((((l.getD ((0 : Int) + (j : Int)).toNat 0).toNat : Nat) : Int).toNat.toUInt8) = l.getD j 0 from by simp] at hB'
        rw [set_turn l j _ hlj] at hB'
        exact hB'
      · exact hs'.extBut _ _ (Ne.symm hSI2) (z9'.ob (I2, oI2) (.head _)).1
    · rintro I2 s' ⟨hI2, m, cm, z, hB, hm1, hm2, hm3, t0, hm4⟩
      refine wpAny_execs_nil ?_
      refine ⟨rfl, ⟨hI, m, cm, z.unwatch, ?_, hm1, hm2, hm3⟩, (z.ob (I, oI) (.head _)).1⟩
      rw [if_neg (by decide)]
      simpa using hB
  · rintro I s' ⟨hI, m, cm, y, hB, hm1, hm2, hm3⟩
    have W' := W.keeps y.keep
    refine wpAny_execs_cons (wpAny_Return_some ?_)
    refine Call_ (nb W' W.f_bytes PyProof.Rows.Boot.«bytes» ?_)
    refine PyProof.Rows.callWith_type1 ?_
    refine args_cons ?_
    refine nm y.ns hm1 ?_
    refine args_nil ?_
    refine call_bytes_ba hB (by simp; omega) fun t k => ?_
    obtain ⟨H16, tk16, rfl⟩ := y.ic.toInCall.same
    exact h t H16 k y.keep
end
end Mine
end
section -- E9b
namespace Mine
open PySem PySem.W PyProof.Rows
set_option maxRecDepth 100000

def pairs4 : List (List Nat × List Nat) := [([0, 1, 0], [1, 0, 1]), ([0, 1, 3], [4, 0, 1]), ([3, 4, 3], [4, 3, 4]), ([0, 4, 3], [4, 3, 1])]
def pieceOf (c : Nat) : List (List Nat) :=
  if c % 5 < 4 then [(pairs4.getD (c % 5) ([], [])).1.map (· + c / 5 % 2), (pairs4.getD (c % 5) ([], [])).2.map (· + c / 5 % 2)]
  else [[c / 5 % 2 * 3, 2 + c / 5 / 2 % 2 * 3], [2 + c / 5 / 2 % 2 * 3, c / 5 % 2 * 3]]

section
variable {prog : Program} {w : World} {A : Around} {E : Value → Shared → Prop} {s : Shared} {mg mb : Str → Option Value}

theorem wp_list3 {env : Env} {a b c : Int} {ka kb kc : Nat} {pa pb pc pl : Pos} {Q : Value → Shared → Prop}
    (h : ∀ D o h' tk, s.heap.objs.size < h'.objs.size → s.heap.objs.size ≤ D → Kp s.heap h' → h'.get? D = some o → SideO o [a, b, c] → Q (.ref D) { s with heap := h', toks := tk }) :
    wpAny (model prog w) A (eval (.List [.Constant (.int a) ka pa, .Constant (.int b) kb pb, .Constant (.int c) kc pc] pl) env) Q E s := by
  refine wpAny_List ?_
  refine args_cons (wpAny_Constant_int ?_)
  refine args_cons (wpAny_Constant_int ?_)
  refine args_cons (wpAny_Constant_int ?_)
  refine args_nil ?_
  refine ⟨by show 3 ≤ sizeLine; decide, ?_⟩
  exact h _ _ _ _ (by rw [Heap.size_push]; exact Nat.lt_succ_self _) (Nat.le_refl _) (fun b o e => Heap.get?_push_of_some _ e) (Heap.get?_push_size _ rfl) ⟨rfl, _, _, rfl, (.cons _ _ (.cons _ _ (.cons _ _ .nil)))⟩

/-- a pair of lists of ints, all of them new since n -/
def PairO (n : Nat) (h : Heap) (U : Addr) (xs ys : List Int) : Prop := ∃ A B oU oA oB, (h.get? U = some oU ∧ n ≤ U) ∧ (oU.cls = .type "tuple" ∧ ∃ k, oU.data = .seq #[.ref A, .ref B] k) ∧ (h.get? A = some oA ∧ n ≤ A) ∧ SideO oA xs ∧ (h.get? B = some oB ∧ n ≤ B) ∧ SideO oB ys
theorem PairO.keeps {n n' : Nat} {h h' : Heap} {U : Addr} {xs ys : List Int} (x : PairO n h U xs ys) (k : Kp h h') (hn : n' ≤ n) : PairO n' h' U xs ys :=
  let ⟨A, B, oU, oA, oB, ⟨h1, h1'⟩, h2, ⟨h3, h3'⟩, h4, ⟨h5, h5'⟩, h6⟩ := x; ⟨A, B, oU, oA, oB, ⟨k _ _ h1, Nat.le_trans hn h1'⟩, h2, ⟨k _ _ h3, Nat.le_trans hn h3'⟩, h4, ⟨k _ _ h5, Nat.le_trans hn h5'⟩, h6⟩

theorem wp_pair3 {env : Env} {a b c d e f : Int} {ka kb kc kd ke kf kk : Nat} {pa pb pc pd pe pf pl pl2 pos : Pos} {Q : Value → Shared → Prop}
    (h : ∀ U h' tk, s.heap.objs.size < h'.objs.size → Kp s.heap h' → PairO s.heap.objs.size h' U [a, b, c] [d, e, f] → Q (.ref U) { s with heap := h', toks := tk }) :
    wpAny (model prog w) A (eval (.Tuple [.List [.Constant (.int a) ka pa, .Constant (.int b) kb pb, .Constant (.int c) kc pc] pl, .List [.Constant (.int d) kd pd, .Constant (.int e) ke pe, .Constant (.int f) kf pf] pl2] kk pos) env) Q E s := by
  refine wpAny_Tuple ?_
  refine args_cons (wp_list3 fun D1 o1 h1 tk1 hz1 hD1 hk1 hl1 hi1 => ?_)
  refine args_cons (wp_list3 fun D2 o2 h2 tk2 hz2 hD2 hk2 hl2 hi2 => ?_)
  refine args_nil ?_
  refine ⟨by show 2 ≤ sizeLine; decide, ?_⟩
  have hz := Nat.lt_trans hz1 hz2
  refine h _ _ _ (by rw [Heap.size_push]; exact Nat.lt_succ_of_lt hz) (fun b o e => Heap.get?_push_of_some _ (hk2 b o (hk1 b o e))) ⟨D1, D2, _, o1, o2, ⟨Heap.get?_push_size _ rfl, Nat.le_of_lt hz⟩, ⟨rfl, _, rfl⟩, ⟨Heap.get?_push_of_some _ (hk2 _ _ hl1), hD1⟩, hi1, ⟨Heap.get?_push_of_some _ hl2, Nat.le_trans (Nat.le_of_lt hz1) hD2⟩, hi2⟩

set_option maxHeartbeats 4000000 in
theorem wp_pairs4 {env : Env} {e1 e2 e3 e4 : PySem.Expr} {pl : Pos} {x1 y1 x2 y2 x3 y3 x4 y4 : List Int} {Q : Value → Shared → Prop}
    (g1 : ∀ (s : Shared) (Q : Value → Shared → Prop), (∀ U h' tk, s.heap.objs.size < h'.objs.size → Kp s.heap h' → PairO s.heap.objs.size h' U x1 y1 → Q (.ref U) { s with heap := h', toks := tk }) → wpAny (model prog w) A (eval e1 env) Q E s)
    (g2 : ∀ (s : Shared) (Q : Value → Shared → Prop), (∀ U h' tk, s.heap.objs.size < h'.objs.size → Kp s.heap h' → PairO s.heap.objs.size h' U x2 y2 → Q (.ref U) { s with heap := h', toks := tk }) → wpAny (model prog w) A (eval e2 env) Q E s)
    (g3 : ∀ (s : Shared) (Q : Value → Shared → Prop), (∀ U h' tk, s.heap.objs.size < h'.objs.size → Kp s.heap h' → PairO s.heap.objs.size h' U x3 y3 → Q (.ref U) { s with heap := h', toks := tk }) → wpAny (model prog w) A (eval e3 env) Q E s)
    (g4 : ∀ (s : Shared) (Q : Value → Shared → Prop), (∀ U h' tk, s.heap.objs.size < h'.objs.size → Kp s.heap h' → PairO s.heap.objs.size h' U x4 y4 → Q (.ref U) { s with heap := h', toks := tk }) → wpAny (model prog w) A (eval e4 env) Q E s)
    (t1 : starEach [e1, e2, e3, e4] env = (false, eval e1 env) :: starEach [e2, e3, e4] env) (t2 : starEach [e2, e3, e4] env = (false, eval e2 env) :: starEach [e3, e4] env)
    (t3 : starEach [e3, e4] env = (false, eval e3 env) :: starEach [e4] env) (t4 : starEach [e4] env = (false, eval e4 env) :: starEach [] env)
    (h : ∀ (D : Addr) (h' : Heap) (tk : Nat) (us : Array Value), s.heap.objs.size ≤ D → Kp s.heap h' → h'.get? D = some { cls := .type "list", data := .seq us } → us.size = 4 → (∀ (k : Nat) (x y : List Int), ([(x1, y1), (x2, y2), (x3, y3), (x4, y4)] : List (List Int × List Int))[k]? = some (x, y) → ∃ U, us[k]? = some (.ref U) ∧ PairO s.heap.objs.size h' U x y) → Q (.ref D) { s with heap := h', toks := tk }) :
    wpAny (model prog w) A (eval (.List [e1, e2, e3, e4] pl) env) Q E s := by
  refine wpAny_List ?_
  refine args_cons ?_ t1
  refine g1 _ _ ?_
  intro U1 h1 tk1 hz1 hk1 hp1
  refine args_cons ?_ t2
  refine g2 _ _ ?_
  dsimp only
  intro U2 h2 tk2 hz2 hk2 hp2
  refine args_cons ?_ t3
  refine g3 _ _ ?_
  dsimp only
  intro U3 h3 tk3 hz3 hk3 hp3
  refine args_cons ?_ t4
  refine g4 _ _ ?_
  dsimp only
  intro U4 h4 tk4 hz4 hk4 hp4
  refine args_nil ?_
  refine ⟨by show 4 ≤ sizeLine; decide, ?_⟩
  have k4 : Kp h4 (h4.push { cls := .type "list", data := .seq #[.ref U1, .ref U2, .ref U3, .ref U4] }) := fun b o e => Heap.get?_push_of_some _ e
  have e12 := Nat.le_of_lt hz1
  have e13 := Nat.le_trans e12 (Nat.le_of_lt hz2)
  have e14 := Nat.le_trans e13 (Nat.le_of_lt hz3)
  refine h _ _ _ #[.ref U1, .ref U2, .ref U3, .ref U4] (Nat.le_trans e14 (Nat.le_of_lt hz4)) (fun b o e => k4 b o (hk4 b o (hk3 b o (hk2 b o (hk1 b o e))))) (Heap.get?_push_size _ rfl) rfl ?_
  intro k x y hk
  match k, hk with
  | 0, hk => cases hk; exact ⟨U1, rfl, (((hp1.keeps hk2 (Nat.le_refl _)).keeps hk3 (Nat.le_refl _)).keeps hk4 (Nat.le_refl _)).keeps k4 (Nat.le_refl _)⟩
  | 1, hk => cases hk; exact ⟨U2, rfl, ((hp2.keeps hk3 (Nat.le_refl _)).keeps hk4 (Nat.le_refl _)).keeps k4 e12⟩
  | 2, hk => cases hk; exact ⟨U3, rfl, (hp3.keeps hk4 (Nat.le_refl _)).keeps k4 e13⟩
  | 3, hk => cases hk; exact ⟨U4, rfl, hp4.keeps k4 e14⟩
end
end Mine
end
section -- SL
namespace Mine
open PySem PySem.W PyProof.Rows
set_option maxRecDepth 100000
section
variable {prog : Program} {w : World} {A : Around} {E : Value → Shared → Prop} {s : Shared} {mg mb : Str → Option Value}

/-- e[::-1] of a list -/
theorem wp_rev {env : Env} {value : PySem.Expr} {kd : Nat} {p1 p2 p3 pos : Pos} {Q : Value → Shared → Prop}
    (h : wpAny (model prog w) A (eval value env) (fun v s₁ => ∃ l items, v = .ref l ∧ s₁.heap.IsList l items ∧ items.size ≤ sizeLine ∧
      ∀ D h' tk, s₁.heap.objs.size ≤ D → s₁.heap.objs.size < h'.objs.size → Kp s₁.heap h' → h'.get? D = some { cls := .type "list", data := .seq items.toList.reverse.toArray } → Q (.ref D) { s₁ with heap := h', toks := tk }) E s) :
    wpAny (model prog w) A (eval (.Subscript value (.Slice none none (some (.UnaryOp .USub (.Constant (.int 1) kd p1) p2)) p3) pos) env) Q E s := by
  refine Subscript_ ?_
  refine wpAny_mono h (fun v s₁ h₁ => ?_) fun _ _ x => x
  obtain ⟨l, items, rfl, hl, hsz, hQ⟩ := h₁
  refine wpAny_Slice ?_
  rw [evalPart_none]
  refine wpAny_pure ?_
  refine wpAny_pure ?_
  rw [evalPart_some]
  refine wpAny_UnaryOp ?_
  refine wpAny_Constant_int ?_
  refine PyProof.Rows.neg_int ?_
  generalize hT1 : s₁.toks + 1 + 1 = tk1
  have hT : ({ s₁ with toks := tk1, heap := s₁.heap.push { cls := .type "slice", data := .fields #[.none, .none, .int (-1) (s₁.toks + 1)] } } : Shared).TypeIs (.ref l) "list" := (hl.push _).typeIs
  refine tail_any hT list_getitem_lookup (wpAny_getItem_list_slice (hl.push _) (Heap.IsSliceOf.new ..) .none .none (.int (-1) _) (by decide) ?_ hsz) (by with_unfolding_all rfl)
  rw [krv_pick]
  refine hQ _ _ _ ?_ ?_ ?_ (Heap.get?_push_size _ rfl)
  · rw [Heap.size_push]; exact Nat.le_succ _
  · rw [Heap.size_push, Heap.size_push]; exact Nat.lt_succ_of_lt (Nat.lt_succ_self _)
  · exact fun b o e => Heap.get?_push_of_some _ (Heap.get?_push_of_some _ e)
end
end Mine
end
section -- E10
namespace Mine
open PySem PySem.W PyProof.Rows
set_option maxRecDepth 100000

section
variable {prog : Program} {w : World} {A : Around} {E : Value → Shared → Prop} {s : Shared} {mg mb : Str → Option Value}

/-- a pair unpacked into a name and a cell -/
theorem DSt.pairNC {env : Env} {m cm : Str → Option Value} {tabs : List (Addr × Tb)} {ob : List (Addr × Obj)} {s' : Shared} (y : DSt prog w s env.locals env.cells m cm tabs ob s') {a b : Str} {pa pb tp : Pos} {kk : Nat} {U : Addr} {v1 v2 : Value} {cb : Addr} {Q : Unit → Shared → Prop} (hh : A.handled = none)
    (hU : s'.heap.IsTuple U #[v1, v2]) (hkd : env.scope.kind = .function) (ha : env.kindOf a = some .local) (hb : env.kindOf b = some .cell) (hcb : env.cells.lookup b = some cb)
    (h : ∀ s'', DSt prog w s env.locals env.cells (fun y => if y = a then some v1 else m y) (fun y => if y = b then some v2 else cm y) tabs ob s'' → Q () s'') :
    wpAny (model prog w) A (assign (.Tuple [.Name a pa, .Name b pb] kk tp) env (.ref U)) Q E s' := by
  refine wpAny_assign_Tuple hh hU rfl rfl fun h₁ he₁ => ?_
  have x1 := y.grow (tk := s'.toks) (h' := h₁) fun c o e => he₁ c o (Nat.ne_of_lt (Heap.lt_size e)) e
  show wpAny _ _ (assignInOrder [assign (.Name a pa) env, assign (.Name b pb) env] [v1, v2]) _ _ _
  refine assignInOrder_cons ?_
  refine wpAny_assign_Name (x1.store hkd ha fun s2 x2 => ?_)
  refine assignInOrder_cons ?_
  refine wpAny_assign_Name (x2.storeC hkd hb hcb fun s3 x3 => ?_)
  exact assignInOrder_nil (h _ x3)

theorem fmod_nat (a b : Nat) : ((a : Int)).fmod (b : Int) = ((a % b : Nat) : Int) := by
  rw [Int.fmod_eq_emod_of_nonneg _ (Int.natCast_nonneg _)]; rfl
theorem fdiv_nat (a b : Nat) : ((a : Int)).fdiv (b : Int) = ((a / b : Nat) : Int) := by
  rw [Int.fdiv_eq_ediv_of_nonneg _ (Int.natCast_nonneg _)]; rfl

/-- a written list of two ints -/
theorem wp_ints2 {env : Env} {e1 e2 : PySem.Expr} {pl : Pos} {k1 k2 : Int} {Q : Value → Shared → Prop}
    (g1 : ∀ (s' : Shared) (Q : Value → Shared → Prop), Kp s.heap s'.heap → (∀ t tk, Q (.int k1 t) { s' with toks := tk }) → wpAny (model prog w) A (eval e1 env) Q E s')
    (g2 : ∀ (s' : Shared) (Q : Value → Shared → Prop), Kp s.heap s'.heap → (∀ t tk, Q (.int k2 t) { s' with toks := tk }) → wpAny (model prog w) A (eval e2 env) Q E s')
    (t1 : starEach [e1, e2] env = (false, eval e1 env) :: starEach [e2] env) (t2 : starEach [e2] env = (false, eval e2 env) :: starEach [] env)
    (h : ∀ D ta tb h' tk, s.heap.objs.size ≤ D → h'.get? D = some { cls := .type "list", data := .seq #[.int k1 ta, .int k2 tb] } → Kp s.heap h' → Q (.ref D) { s with heap := h', toks := tk }) :
    wpAny (model prog w) A (eval (.List [e1, e2] pl) env) Q E s := by
  refine wpAny_List ?_
  refine args_cons ?_ t1
  refine g1 _ _ (fun _ _ e => e) ?_
  intro ta tk1
  refine args_cons ?_ t2
  refine g2 _ _ (fun _ _ e => e) ?_
  intro tb tk2
  refine args_nil ?_
  exact ⟨by show 2 ≤ sizeLine; decide, h _ _ _ _ _ (Nat.le_refl _) (Heap.get?_push_size _ rfl) fun b o e => Heap.get?_push_of_some _ e⟩

def piecesOf (k : Nat) : List (List Int) := match k with
  | 0 => [[0, 1, 0], [1, 0, 1]]
  | 1 => [[0, 1, 3], [4, 0, 1]]
  | 2 => [[3, 4, 3], [4, 3, 4]]
  | _ => [[0, 4, 3], [4, 3, 1]]
theorem pieces_len (k : Nat) (z : List Int) (h : z ∈ piecesOf k) : z.length = 3 := by
  unfold piecesOf at h
  split at h <;> (simp only [List.mem_cons, List.not_mem_nil, or_false] at h; rcases h with rfl | rfl <;> rfl)
def pieceT (c : Nat) : List (List Int) :=
  if c % 5 < 4 then (piecesOf (c % 5)).map fun l => l.map (· + ((c / 5 % 2 : Nat) : Int))
  else [[((c / 5 % 2 * 3 : Nat) : Int), ((2 + c / 5 / 2 % 2 * 3 : Nat) : Int)], [((2 + c / 5 / 2 % 2 * 3 : Nat) : Int), ((c / 5 % 2 * 3 : Nat) : Int)]]

set_option maxHeartbeats 1000000 in
theorem call_piece {a : Addr} {cdv : Value} {c : Nat} {tc : Tok} {R : Result → Shared → Prop} (F : FnAt s.heap a "_law_piece" 11 cdv) (W : Wd mg mb s.heap) (rm : Rm A 2)
    (h : ∀ D ys news h' tk, s.heap.objs.size ≤ D → Kp s.heap h' → h'.IsList D (List.toArray ys) → (∀ p ∈ news, h'.get? p.1 = some p.2) → SidesAre ys news (pieceT c) → R (.ok (.ret (.ref D))) { s with heap := h', toks := tk }) :
    codeAny (model prog w) A (.call (.ref a) ⟨[.int c tc], []⟩) R s := by
  refine wp_enterX (binds := [("cell", .int c tc)]) F W rm.room (fun _ _ _ _ => by rfl) ?_ fun s₁ x => ?_
  · intro x hx
    simp only [List.mem_cons, List.not_mem_nil, or_false] at hx
    rcases hx with rfl
    exact .inl rfl
  generalize hL : s.heap.objs.size = L at x ⊢
  have rm' := rm.deeper (envOfC "_law_piece" (scopeOf 11) L a cdv)
  generalize hA : A.deeper (envOfC "_law_piece" (scopeOf 11) L a cdv) = A' at rm' ⊢
  have hh : A'.handled = none := rm'.hh
  obtain ⟨m0, cm0, x0, hm0⟩ : ∃ m cm, DSt prog w s L (cellsFrom (L + 1) (scopeOf 11).names []) m cm [] [] s₁ ∧ m (Str.ofString "cell") = some (.int c tc) := ⟨_, _, ⟨x, (fun p hp => nomatch hp), (fun p hp => nomatch hp)⟩, rfl⟩
  refine wpAny_execs_cons ?_
  refine wpAny_Assign_Name ?_ ?_
  rotate_left
  · rfl
  refine wp_pairs4 (x1 := [0, 1, 0]) (y1 := [1, 0, 1]) (x2 := [0, 1, 3]) (y2 := [4, 0, 1]) (x3 := [3, 4, 3]) (y3 := [4, 3, 4]) (x4 := [0, 4, 3]) (y4 := [4, 3, 1]) ?_ ?_ ?_ ?_ ?_ ?_ ?_ ?_ ?_
  rotate_left 4
  · rfl
  · rfl
  · rfl
  · rfl
  rotate_left
  · intro s Q q; exact wp_pair3 q
  · intro s Q q; exact wp_pair3 q
  · intro s Q q; exact wp_pair3 q
  · intro s Q q; exact wp_pair3 q
  intro D h1 tk1 us hD hk1 hoD hus hps
  have hpick : c % 5 < 4 → ∃ U x y, us[c % 5]? = some (.ref U) ∧ piecesOf (c % 5) = [x, y] ∧ PairO s₁.heap.objs.size h1 U x y := by
    intro hc
    have : c % 5 = 0 ∨ c % 5 = 1 ∨ c % 5 = 2 ∨ c % 5 = 3 := by omega
    rcases this with e | e | e | e <;> rw [e]
    · obtain ⟨U, hU, hp⟩ := hps 0 _ _ rfl; exact ⟨U, _, _, hU, rfl, hp⟩
    · obtain ⟨U, hU, hp⟩ := hps 1 _ _ rfl; exact ⟨U, _, _, hU, rfl, hp⟩
    · obtain ⟨U, hU, hp⟩ := hps 2 _ _ rfl; exact ⟨U, _, _, hU, rfl, hp⟩
    · obtain ⟨U, hU, hp⟩ := hps 3 _ _ rfl; exact ⟨U, _, _, hU, rfl, hp⟩
  have x5 : ∃ ob, DSt prog w s L (cellsFrom (L + 1) (scopeOf 11).names []) m0 cm0 [] ob { s₁ with heap := h1, toks := tk1 } ∧ (c % 5 < 4 → ∃ oD U oU B C oB oC xs ys, (D, oD) ∈ ob ∧ (oD.cls = .type "list" ∧ ∃ n, oD.data = .seq us n) ∧ us[c % 5]? = some (.ref U) ∧ (U, oU) ∈ ob ∧ (oU.cls = .type "tuple" ∧ ∃ n, oU.data = .seq #[.ref B, .ref C] n) ∧ (B, oB) ∈ ob ∧ SideO oB xs ∧ (C, oC) ∈ ob ∧ SideO oC ys ∧ piecesOf (c % 5) = [xs, ys]) := by
    by_cases hc : c % 5 < 4
    · obtain ⟨U, xs, ys, hU, hp, B, C, oU, oB, oC, h2, h3, h4, h5, h6, h7⟩ := hpick hc
      refine ⟨[(D, { cls := .type "list", data := .seq us }), (U, oU), (B, oB), (C, oC)] ++ [], x0.newObjs hk1 _ ?_, fun _ => ⟨_, U, oU, B, C, oB, oC, xs, ys, .head _, ⟨rfl, _, rfl⟩, hU, .tail _ (.head _), h3, .tail _ (.tail _ (.head _)), h5, .tail _ (.tail _ (.tail _ (.head _))), h7, hp⟩⟩
      intro p hp
      simp only [List.mem_cons, List.not_mem_nil, or_false] at hp
      rcases hp with rfl | rfl | rfl | rfl
      · exact ⟨hoD, hD⟩
      · exact h2
      · exact h4
      · exact h6
    · exact ⟨[], x0.grow hk1, fun q => absurd q hc⟩
  obtain ⟨ob, x5, hob⟩ := x5
  refine x5.store (env := envOfC "_law_piece" (scopeOf 11) L a cdv) rfl rfl fun s6 x6 => ?_
  refine wpAny_execs_cons ?_
  refine Assign_Tuple ?_ ?_ ?_
  rotate_left
  · rfl
  · rfl
  refine wpAny_mono (?_ : wpAny _ _ _ (fun v s12 => ∃ U t1 t2, v = .ref U ∧ s12.heap.IsTuple U #[.int ((c % 5 : Nat) : Int) t1, .int ((c / 5 : Nat) : Int) t2] ∧ Keeps s6 s12) No _) (fun v s12 h12 => ?_) fun _ _ x => x
  · refine wpAny_Tuple ?_
    refine args_cons ?_
    refine wpAny_BinOp ?_
    refine nm x6.ns (show _ = some (Value.int c tc) from hm0) ?_
    refine wpAny_Constant_int ?_
    refine PyProof.Rows.mod_int (by decide) ?_
    refine args_cons ?_
    refine wpAny_BinOp ?_
    refine nm (x6.toks _).ns (show _ = some (Value.int c tc) from hm0) ?_
    refine wpAny_Constant_int ?_
    refine PyProof.Rows.floordiv_int (by decide) ?_
    refine args_nil ?_
    rw [show (c : Int).fmod 5 = ((c % 5 : Nat) : Int) from fmod_nat c 5, show (c : Int).fdiv 5 = ((c / 5 : Nat) : Int) from fdiv_nat c 5]
    exact ⟨by show 2 ≤ sizeLine; decide, _, _, _, rfl, ⟨_, Heap.get?_push_size _ rfl, rfl, _, rfl⟩, _, _, rfl, fun b o e => Heap.get?_push_of_some _ e⟩
  obtain ⟨U, t1, t2, rfl, hU, H12, tk12, rfl, hk12⟩ := h12
  have x7 := x6.grow (tk := tk12) hk12
  refine x7.pairNC (env := envOfC "_law_piece" (scopeOf 11) L a cdv) hh hU rfl rfl rfl (cb := L + 1) rfl ?_
  intro s8 x8
  generalize hm1 : (fun y => if y = Str.ofString "kind" then some (Value.int ((c % 5 : Nat) : Int) t1) else if y = Str.ofString "pairs" then some (Value.ref D) else m0 y) = m1 at x8
  have hk : m1 (Str.ofString "kind") = some (.int ((c % 5 : Nat) : Int) t1) := by rw [← hm1]; rfl
  have hpa : m1 (Str.ofString "pairs") = some (.ref D) := by rw [← hm1]; rfl
  have cRest : s8.heap.IsCell (L + 1) (some (.int ((c / 5 : Nat) : Int) t2)) := x8.ic.cell (Str.ofString "rest") (L + 1) rfl
  -- if kind < 4
  refine wpAny_execs_cons ?_
  refine wpAny_If ?_
  refine wpAny_isTrue_Compare1 ?_
  refine nm x8.ns hk ?_
  refine wpAny_Constant_int ?_
  refine P.lt_int ?_
  refine wpAny_truthy_bool ?_
  by_cases hc : c % 5 < 4
  · rw [decide_eq_true (by omega), if_pos rfl]
    obtain ⟨oD, U', oU, B, C, oB, oC, xs, ys, hoDm, ⟨hDc, nD, hDd⟩, husU, hUm, ⟨hUc, nU, hUd⟩, hBm, hBs, hCm, hCs, hpc⟩ := hob hc
    refine wpAny_execs_cons ?_
    refine wpAny_Return_some ?_
    refine wp_LC (cl := [(Str.ofString "rest", L + 1)]) (by rfl) rfl (by decide) ?_
    refine Subscript_ ?_
    refine nm (x8.toks _).ns hpa ?_
    refine nm (x8.toks _).ns hk ?_
    have x9 := x8.toks (s8.toks + 1)
    generalize hs9 : ({ s8 with toks := s8.toks + 1 } : Shared) = s9 at x9 ⊢
    have cRest : s9.heap.IsCell (L + 1) (some (.int ((c / 5 : Nat) : Int) t2)) := x9.ic.cell (Str.ofString "rest") (L + 1) rfl
    have hlD : s9.heap.IsList D us := ⟨oD, (x9.ob _ hoDm).1, hDc, nD, hDd⟩
    refine tail_any (T := "list") hlD.typeIs slot_list_getitem.lookup ?_ (by with_unfolding_all rfl)
    refine wpAny_getItem_list hlD (Int.natCast_nonneg _) (by omega) (by rw [Int.toNat_natCast]; exact husU) ?_
    have hU9 : s9.heap.IsTuple U' #[.ref B, .ref C] := ⟨oU, (x9.ob _ hUm).1, hUc, nU, hUd⟩
    refine wpAny_pyIter_tuple hU9 ?_
    have kI : ∀ o', Kp s9.heap (s9.heap.push o') := fun o' b o e => Heap.get?_push_of_some _ e
    have hne : U' ≠ s9.heap.objs.size := Nat.ne_of_lt (Heap.lt_size (x9.ob _ hUm).1)
    have Wk := Walks.tuple (prog := prog) (w := w) hh s9.heap.objs.size U' hne #[.ref B, .ref C]
    have hst : (s9.heap.push { cls := .type "tuple_iterator", data := .fields #[.ref U', .int 0 0] }).IsTupleIter s9.heap.objs.size U' 0 ∧ (s9.heap.push { cls := .type "tuple_iterator", data := .fields #[.ref U', .int 0 0] }).IsTuple U' #[.ref B, .ref C] :=
      ⟨⟨_, Heap.get?_push_size _ rfl, rfl, rfl⟩, hU9.at fun o e => kI _ _ o e⟩
    refine ⟨_, _, rfl, hst, (fun h h' st hk => Wk.frame 0 h h' st fun b _ o e => hk b o e), (fun s' Q' E' st hq => Wk.self 0 s' Q' E' st hq), ?_⟩
    intro D2 C2 h2 hD2 hC2 hns2 hl2 hk2 _
    have off : ∀ b o, s9.heap.get? b = some o → b ∉ [s9.heap.objs.size] := fun b o e q => Nat.lt_irrefl _ ((List.mem_singleton.mp q) ▸ Heap.lt_size e)
    refine lc_names (env := envOfC "_law_piece" (scopeOf 11) L a cdv) Wk (fun _ => by rfl) rfl (by rfl) (by rfl) (fun i us news => SidesAre us news (([xs, ys].take i).map fun l => l.map (· + ((c / 5 % 2 : Nat) : Int)))) hst ?_ .nil ?_ hD2 hC2 hns2 hl2 hk2 ?_ ?_
    · intro b hb
      simp only [List.mem_cons, List.not_mem_nil, or_false] at hb
      rw [Heap.size_push]
      rcases hb with rfl | rfl
      · exact Nat.lt_succ_self _
      · exact Nat.lt_succ_of_lt (Heap.lt_size (x9.ob _ hUm).1)
    · rintro i us news ⟨l, rfl, _, hl, _⟩
      have h2 : (([xs, ys] : List (List Int)).take i).length ≤ 2 := List.length_take_le' ..
      simp only [List.length_map] at hl ⊢
      omega
    · intro i us news v s₂ m₂ hi hPv hJ hnews hn hm hk3
      have hk3' : Kp s9.heap s₂.heap := fun b o e => hk3 b o (off b o e) (kI _ b o e)
      obtain ⟨b, ob', zs, rfl, hob', hbs, hzs⟩ : ∃ b ob' zs, v = .ref b ∧ s₂.heap.get? b = some ob' ∧ SideO ob' zs ∧ ([xs, ys] : List (List Int))[i]? = some zs := by
        match i, hPv with
        | 0, hPv => cases hPv; exact ⟨B, oB, xs, rfl, hk3' _ _ (x9.ob _ hBm).1, hBs, rfl⟩
        | 1, hPv => cases hPv; exact ⟨C, oC, ys, rfl, hk3' _ _ (x9.ob _ hCm).1, hCs, rfl⟩
      obtain ⟨vs, hlv, hiv⟩ := list_of_side hob' hbs
      have hzl : zs.length ≤ 100000 := by
        have h3 := pieces_len (c % 5) zs (hpc ▸ List.mem_of_getElem? hzs)
        omega
      refine wpAny_tests_nil ⟨keeps_refl _, ?_⟩
      rw [if_pos rfl]
      refine wp_LC (cl := [(Str.ofString "rest", L + 1)]) (by rfl) rfl (by decide) ?_
      refine nm hn hm ?_
      refine ints_src (f := (· + ((c / 5 % 2 : Nat) : Int))) hh hlv hiv hzl (by decide) rfl rfl ?_ ?_
      · intro C4 j d td s4 m4 hj hn4 hm4 hk4
        refine wpAny_BinOp ?_
        refine nm hn4 hm4 ?_
        refine wpAny_BinOp ?_
        refine nc (c := L + 1) ((cRest.keeps hk3').keeps hk4) ?_
        refine wpAny_Constant_int ?_
        refine PyProof.Rows.mod_int (by decide) ?_
        refine PyProof.Rows.add_int ?_
        rw [show ((c / 5 : Nat) : Int).fmod 2 = ((c / 5 % 2 : Nat) : Int) from fmod_nat _ 2]
        exact ⟨keeps_tok _ _, _, rfl⟩
      · intro D4 C4 h4 tk4 us4 hD4 hC4 hns4 hl4 hi4 hk4
        refine ⟨rfl, hns4, fun h5 hs5 => ?_⟩
        have hDC4 : D4 ≠ C4 := by rw [hC4]; exact Nat.ne_of_lt (Nat.lt_succ_self _)
        have hk5 : Kp s₂.heap h5 := fun b o e => hs5.extBut b o (Nat.ne_of_lt (Nat.lt_of_lt_of_le (Heap.lt_size e) (by rw [hC4]; exact Nat.le_succ_of_le hD4))) (hk4 b o e)
        obtain ⟨o4, ho4, hs4⟩ := sideO_of (hl4.extBut hs5.extBut hDC4) hi4
        refine ⟨⟨h5, tk4, rfl, hk5⟩, [(D4, o4)], fun p hp => ?_, ?_⟩
        · rw [List.mem_singleton.mp hp]; exact ⟨hD4, ho4⟩
        · rw [take_next hzs, List.map_append]
          exact hJ.snoc hs4
    · rintro s' us ⟨⟨H, tk, rfl⟩, hm, keep, news, hnews, hJ⟩ hl'
      refine ⟨rfl, hm, fun h'' hs'' => ?_⟩
      have hDC : D2 ≠ C2 := by rw [hC2]; exact Nat.ne_of_lt (Nat.lt_succ_self _)
      have hLD : L < D2 := by rw [hD2, Heap.size_push]; exact Nat.lt_succ_of_lt x9.lt
      obtain ⟨H1, tk1, rfl⟩ := x9.ic.toInCall.same
      refine h D2 us news h'' tk (Nat.le_of_lt (hL ▸ hLD)) (fun b o e => hs''.extBut b o ?_ (keep b o (off b o (x9.keep b o e)) (kI _ b o (x9.keep b o e)))) (hl'.extBut hs''.extBut hDC) (fun p hp => hs''.extBut _ _ (Nat.ne_of_gt (hnews p hp).2) (hnews p hp).1) ?_
      · exact Nat.ne_of_lt (Nat.lt_trans (hL ▸ Heap.lt_size e) (Nat.lt_trans hLD (by rw [hC2]; exact Nat.lt_succ_self _)))
      · rw [pieceT, if_pos hc, hpc]
        exact hJ
  · rw [decide_eq_false (by omega), if_neg (by decide)]
    refine wpAny_execs_nil ?_
    refine wpAny_execs_cons ?_
    refine wpAny_Assign_Name ?_ ?_
    rotate_left
    · rfl
    have x9 := x8.toks (s8.toks + 1)
    generalize hs9 : ({ s8 with toks := s8.toks + 1 } : Shared) = s9 at x9 ⊢
    have cRest : ∀ {s' : Shared}, Kp s9.heap s'.heap → s'.heap.IsCell (L + 1) (some (.int ((c / 5 : Nat) : Int) t2)) := fun k => (x9.ic.cell (Str.ofString "rest") (L + 1) rfl).keeps k
    have m1 : ((c / 5 : Nat) : Int).fmod 2 * 3 = ((c / 5 % 2 * 3 : Nat) : Int) := by rw [show ((c / 5 : Nat) : Int).fmod 2 = ((c / 5 % 2 : Nat) : Int) from fmod_nat _ 2]; omega
    have m2 : 2 + (((c / 5 : Nat) : Int).fdiv 2).fmod 2 * 3 = ((2 + c / 5 / 2 % 2 * 3 : Nat) : Int) := by
      rw [show ((c / 5 : Nat) : Int).fdiv 2 = ((c / 5 / 2 : Nat) : Int) from fdiv_nat _ 2, show ((c / 5 / 2 : Nat) : Int).fmod 2 = ((c / 5 / 2 % 2 : Nat) : Int) from fmod_nat _ 2]; omega
    refine wpAny_mono (?_ : wpAny _ _ _ (fun v s12 => ∃ D ta tb, v = .ref D ∧ s9.heap.objs.size ≤ D ∧ s12.heap.get? D = some { cls := .type "list", data := .seq #[.int ((c / 5 % 2 * 3 : Nat) : Int) ta, .int ((2 + c / 5 / 2 % 2 * 3 : Nat) : Int) tb] } ∧ Keeps s9 s12) No _) (fun v s12 h12 => ?_) fun _ _ x => x
    · refine wp_ints2 (k1 := ((c / 5 % 2 * 3 : Nat) : Int)) (k2 := ((2 + c / 5 / 2 % 2 * 3 : Nat) : Int)) ?_ ?_ ?_ ?_ ?_
      rotate_left 2
      · rfl
      · rfl
      rotate_left
      · intro s' Q' ks q
        refine wpAny_BinOp ?_
        refine wpAny_BinOp ?_
        refine nc (c := L + 1) (cRest ks) ?_
        refine wpAny_Constant_int ?_
        refine PyProof.Rows.mod_int (by decide) ?_
        refine wpAny_Constant_int ?_
        refine PyProof.Rows.mul_int ?_ (IntMulOk.of_right (intBits_le (by decide)))
        rw [m1]
        exact q _ _
      · intro s' Q' ks q
        refine wpAny_BinOp ?_
        refine wpAny_Constant_int ?_
        refine wpAny_BinOp ?_
        refine wpAny_BinOp ?_
        refine wpAny_BinOp ?_
        refine nc (c := L + 1) (cRest ks) ?_
        refine wpAny_Constant_int ?_
        refine PyProof.Rows.floordiv_int (by decide) ?_
        refine wpAny_Constant_int ?_
        refine PyProof.Rows.mod_int (by decide) ?_
        refine wpAny_Constant_int ?_
        refine PyProof.Rows.mul_int ?_ (IntMulOk.of_right (intBits_le (by decide)))
        refine PyProof.Rows.add_int ?_
        rw [m2]
        exact q _ _
      · intro D ta tb h' tk hD hoD hkD
        exact ⟨D, ta, tb, rfl, hD, hoD, _, _, rfl, hkD⟩
    obtain ⟨D2, ta, tb, rfl, hD2, hoD2, H12, tk12, rfl, hk12⟩ := h12
    have x10 := x9.newObj (tk := tk12) hD2 hoD2 hk12
    refine x10.store (env := envOfC "_law_piece" (scopeOf 11) L a cdv) rfl rfl ?_
    intro s11 x11
    have hl11 : s11.heap.IsList D2 #[.int ((c / 5 % 2 * 3 : Nat) : Int) ta, .int ((2 + c / 5 / 2 % 2 * 3 : Nat) : Int) tb] := ⟨_, (x11.ob _ (.head _)).1, rfl, _, rfl⟩
    refine wpAny_execs_cons ?_
    refine wpAny_Return_some ?_
    refine wpAny_List ?_
    refine args_cons ?_
    refine nm x11.ns (show _ = some (Value.ref D2) from rfl) ?_
    refine args_cons ?_
    refine wp_rev ?_
    refine nm x11.ns (show _ = some (Value.ref D2) from rfl) ?_
    refine ⟨D2, _, rfl, hl11, by show 2 ≤ sizeLine; decide, ?_⟩
    intro D3 h3 tk3 hD3 hz3 hk3 ho3
    refine args_nil ?_
    refine ⟨by show 2 ≤ sizeLine; decide, ?_⟩
    obtain ⟨H11, tk11, rfl⟩ := x11.ic.toInCall.same
    have kp : ∀ o', Kp h3 (h3.push o') := fun o' b o e => Heap.get?_push_of_some _ e
    refine h _ [.ref D2, .ref D3] [(D2, { cls := .type "list", data := .seq #[.int ((c / 5 % 2 * 3 : Nat) : Int) ta, .int ((2 + c / 5 / 2 % 2 * 3 : Nat) : Int) tb] }), (D3, { cls := .type "list", data := .seq #[.int ((2 + c / 5 / 2 % 2 * 3 : Nat) : Int) tb, .int ((c / 5 % 2 * 3 : Nat) : Int) ta] })] _ _ ?_ ?_ ⟨_, Heap.get?_push_size _ rfl, rfl, _, rfl⟩ ?_ ?_
    · exact Nat.le_of_lt (Nat.lt_of_le_of_lt (Nat.le_of_lt (hL ▸ x11.lt)) hz3)
    · exact fun b o e => kp _ _ _ (hk3 _ _ (x11.keep b o e))
    · intro p hp
      simp only [List.mem_cons, List.not_mem_nil, or_false] at hp
      rcases hp with rfl | rfl
      · exact kp _ _ _ (hk3 _ _ (x11.ob _ (.head _)).1)
      · exact kp _ _ _ ho3
    · rw [pieceT, if_neg hc]
      refine ⟨[(D2, { cls := .type "list", data := .seq #[.int ((c / 5 % 2 * 3 : Nat) : Int) ta, .int ((2 + c / 5 / 2 % 2 * 3 : Nat) : Int) tb] }), (D3, { cls := .type "list", data := .seq #[.int ((2 + c / 5 / 2 % 2 * 3 : Nat) : Int) tb, .int ((c / 5 % 2 * 3 : Nat) : Int) ta] })], rfl, fun p hp => hp, rfl, ?_⟩
      intro k p zs h1 h2
      match k, h1, h2 with
      | 0, h1, h2 => cases h1; cases h2; exact ⟨rfl, _, _, rfl, .cons _ _ (.cons _ _ .nil)⟩
      | 1, h1, h2 => cases h1; cases h2; exact ⟨rfl, _, _, rfl, .cons _ _ (.cons _ _ .nil)⟩
end
end Mine
end
section -- ZD
namespace Mine
open PySem PySem.W PyProof.Rows
set_option maxRecDepth 100000

/-- a zip's own objects lie apart -/
structure ZAp (z TI TO i1 i2 : Addr) (fp1 fp2 : List Addr) : Prop where
  TIz : TI ≠ z
  TOz : TO ≠ z
  i1z : i1 ≠ z
  i2z : i2 ≠ z
  TITO : TI ≠ TO
  TIi1 : TI ≠ i1
  TIi2 : TI ≠ i2
  TOi1 : TO ≠ i1
  TOi2 : TO ≠ i2
  i12 : i1 ≠ i2
  z1 : z ∉ fp1
  z2 : z ∉ fp2
  t1 : TO ∉ fp1
  t2 : TO ∉ fp2
  a2 : i2 ∉ fp1
  a1 : i1 ∉ fp2

section
variable {prog : Program} {w : World} {A : Around} {E : Value → Shared → Prop} {s : Shared}
variable {z TI TO i1 i2 : Addr} {fp1 fp2 : List Addr} {n1 n2 i : Nat} {P1 P2 : Nat → Value → Prop} {St1 St2 : Nat → Heap → Prop}

theorem St_ext {it : Addr} {fp : List Addr} {n k : Nat} {P : Nat → Value → Prop} {St : Nat → Heap → Prop} (D : Draws prog w A it fp n P St) {h h' : Heap} {c : Addr} (hs : St k h) (hk : Heap.ExtBut c h h') (hc : c ∉ fp) : St k h' :=
  D.frame _ _ _ hs fun b hb o e => hk b o (fun q => hc (q ▸ hb)) e

theorem zipD_item {a b : Value} {Q : Value → Shared → Prop} (D1 : Draws prog w A i1 fp1 n1 P1 St1) (D2 : Draws prog w A i2 fp2 n2 P2 St2) (D : ZAp z TI TO i1 i2 fp1 fp2)
    (hz : IsZip s.heap z TI TO .none) (hTI : IsPair s.heap TI (.ref i1) (.ref i2)) (hTO : IsPair s.heap TO a b) (s1 : St1 i s.heap) (s2 : St2 i s.heap) (l1 : i < n1) (l2 : i < n2)
    (hQ : ∀ x y h' tk, P1 i x → P2 i y → IsZip h' z TI TO (rawInt s.heap.objs.size) → IsPair h' TO x y → St1 (i + 1) h' → St2 (i + 1) h' → IsPair h' s.heap.objs.size x y → h'.objs.size = s.heap.objs.size + 1 →
      (∀ c o, c ≠ z → c ≠ TO → c ≠ i1 → c ≠ i2 → s.heap.get? c = some o → h'.get? c = some o) → Q (.ref s.heap.objs.size) { s with heap := h', toks := tk }) :
    wpAny (model prog w) A (Builtin.«zip.__next__» ⟨[.ref z], []⟩) (fun fin s' => ∃ v, fin = .done (.ret v) ∧ Q v s') E s := by
  show wpAny _ _ (field (.ref z) 2 >>= _) _ _ _
  refine wpAny_bind (wpAny_field hz rfl (x := .bool false) rfl ?_)
  show wpAny _ _ (field (.ref z) 3 >>= _) _ _ _
  refine wpAny_bind (wpAny_field hz rfl (x := .ref TI) rfl ?_)
  refine wpAny_bind (wpAny_seqItems hTI rfl ?_)
  show wpAny _ _ (Builtin.SmallTypes.ownedTupleIsFree (.ref z) >>= _) _ _ _
  refine wpAny_bind ?_
  unfold Builtin.SmallTypes.ownedTupleIsFree
  refine wpAny_bind (wpAny_field hz rfl (x := .none) rfl (wpAny_pure ?_))
  simp only [if_true]
  refine wpAny_bind (wpAny_rule ?_)
  refine wpAny_bind (wpAny_field hz rfl (x := .ref TO) rfl ?_)
  refine wpAny_bind (wpAny_setField_rec hz (by simp) fun h₁ hz₁ hs₁ => ?_)
  replace hz₁ : IsZip h₁ z TI TO .ellipsis := hz₁
  refine wpAny_bind ?_
  simp only [List.zipIdx_cons, List.zipIdx_nil, List.forIn_cons, List.forIn_nil]
  refine wpAny_bind (wpAny_bind (wpAny_onRaise ?_))
  show wpAny _ _ (Builtin.SmallTypes.nextOf (.ref i1) >>= _) _ _ _
  refine wpAny_bind (D1.item i _ _ _ l1 (St_ext D1 s1 hs₁.extBut D.z1) fun x h₂ tk₂ hx st₂ hs₂ => wpAny_pure ?_)
  replace hs₂ : Heap.SameBut i1 h₁ h₂ := hs₂
  have hTO₂ : IsPair h₂ TO a b := hs₂.extBut _ _ D.TOi1 (hs₁.extBut _ _ D.TOz hTO)
  refine wpAny_bind (wpAny_seqItems hTO₂ rfl ?_)
  refine wpAny_bind (wpAny_updateSeq_pair hTO₂ fun h₃ hTO₃ hs₃ => ?_)
  replace hTO₃ : IsPair h₃ TO x b := hTO₃
  replace hs₃ : Heap.SameBut TO h₂ h₃ := hs₃
  refine wpAny_bind (wpAny_letGo (wpAny_pure ?_))
  refine wpAny_bind (wpAny_bind (wpAny_onRaise ?_))
  show wpAny _ _ (Builtin.SmallTypes.nextOf (.ref i2) >>= _) _ _ _
  refine wpAny_bind (D2.item i _ _ _ l2 (St_ext D2 (St_ext D2 (St_ext D2 s2 hs₁.extBut D.z2) hs₂.extBut D.a1) hs₃.extBut D.t2) fun y h₄ tk₄ hy st₄ hs₄ => wpAny_pure ?_)
  replace hs₄ : Heap.SameBut i2 h₃ h₄ := hs₄
  have hTO₄ : IsPair h₄ TO x b := hs₄.extBut _ _ D.TOi2 hTO₃
  refine wpAny_bind (wpAny_seqItems hTO₄ rfl ?_)
  refine wpAny_bind (wpAny_updateSeq_pair hTO₄ fun h₅ hTO₅ hs₅ => ?_)
  replace hTO₅ : IsPair h₅ TO x y := hTO₅
  replace hs₅ : Heap.SameBut TO h₄ h₅ := hs₅
  refine wpAny_bind (wpAny_letGo (wpAny_pure (wpAny_pure ?_)))
  refine wpAny_bind (wpAny_seqItems hTO₅ rfl ?_)
  refine wpAny_bind (wpAny_newTuple ?_)
  have hsz : h₅.objs.size = s.heap.objs.size := by rw [hs₅.1, hs₄.1, hs₃.1, hs₂.1, hs₁.1]
  have hz₅ : IsZip h₅ z TI TO .ellipsis := hs₅.extBut _ _ D.TOz.symm (hs₄.extBut _ _ D.i2z.symm (hs₃.extBut _ _ D.TOz.symm (hs₂.extBut _ _ D.i1z.symm hz₁)))
  have hk₅ : ∀ c o, c ≠ z → c ≠ TO → c ≠ i1 → c ≠ i2 → s.heap.get? c = some o → h₅.get? c = some o := fun c o c1 c2 c3 c4 e =>
    hs₅.extBut _ _ c2 (hs₄.extBut _ _ c4 (hs₃.extBut _ _ c2 (hs₂.extBut _ _ c3 (hs₁.extBut _ _ c1 e))))
  have st1₅ : St1 (i + 1) h₅ := St_ext D1 (St_ext D1 (St_ext D1 st₂ hs₃.extBut D.t1) hs₄.extBut D.a2) hs₅.extBut D.t1
  have st2₅ : St2 (i + 1) h₅ := St_ext D2 st₄ hs₅.extBut D.t2
  have hzlt : z < h₅.objs.size := Heap.lt_size hz₅
  show wpAny _ _ (Builtin.SmallTypes.ownedTupleHandOut (.ref z) (.ref h₅.objs.size) >>= _) _ _ _
  refine wpAny_bind ?_
  unfold Builtin.SmallTypes.ownedTupleHandOut
  have hz₆ : IsZip (h₅.push { cls := .type "tuple", data := .seq #[x, y] }) z TI TO .ellipsis := Heap.get?_push_of_some _ hz₅
  refine wpAny_bind (wpAny_setField_rec hz₆ (by simp) fun h₇ hz₇ hs₇ => ?_)
  replace hz₇ : IsZip h₇ z TI TO (rawInt h₅.objs.size) := hz₇
  refine wpAny_setField_rec hz₇ (by simp) fun h₈ hz₈ hs₈ => ?_
  replace hz₈ : IsZip h₈ z TI TO (rawInt h₅.objs.size) := hz₈
  replace hs₇ : Heap.SameBut z (h₅.push { cls := .type "tuple", data := .seq #[x, y] }) h₇ := hs₇
  replace hs₈ : Heap.SameBut z h₇ h₈ := hs₈
  have up : ∀ c o, c ≠ z → h₅.get? c = some o → h₈.get? c = some o := fun c o c1 e => hs₈.extBut _ _ c1 (hs₇.extBut _ _ c1 (Heap.get?_push_of_some _ e))
  have hT₈ : IsPair h₈ h₅.objs.size x y := hs₈.extBut _ _ (Nat.ne_of_gt hzlt) (hs₇.extBut _ _ (Nat.ne_of_gt hzlt) (Heap.get?_push_size _ rfl))
  have hz8 : h₈.objs.size = h₅.objs.size + 1 := by rw [hs₈.1, hs₇.1, Heap.size_push]
  rw [hsz] at hz₈ hT₈ hz8
  refine wpAny_pure ⟨_, rfl, ?_⟩
  show Q (.ref h₅.objs.size) _
  rw [hsz]
  exact hQ x y h₈ tk₄ hx hy hz₈ (up _ _ D.TOz hTO₅) (St_ext D1 st1₅ (fun c o c1 e => up c o c1 e) D.z1) (St_ext D2 st2₅ (fun c o c1 e => up c o c1 e) D.z2) hT₈ hz8 fun c o c1 c2 c3 c4 e => up c o c1 (hk₅ c o c1 c2 c3 c4 e)

theorem zipD_end {a b : Value} {Q : Fin → Shared → Prop} (D1 : Draws prog w A i1 fp1 n1 P1 St1) (D : ZAp z TI TO i1 i2 fp1 fp2)
    (hz : IsZip s.heap z TI TO .none) (hTI : IsPair s.heap TI (.ref i1) (.ref i2)) (hTO : IsPair s.heap TO a b) (s1 : St1 n1 s.heap)
    (hE : ∀ h' e, (∀ c o, c ≠ z → c ≠ TO → c ≠ i1 → c ≠ i2 → s.heap.get? c = some o → h'.get? c = some o) → (∃ o, h'.get? e = some o ∧ o.cls = .type "StopIteration") → E (.ref e) { s with heap := h' }) :
    wpAny (model prog w) A (Builtin.«zip.__next__» ⟨[.ref z], []⟩) Q E s := by
  show wpAny _ _ (field (.ref z) 2 >>= _) _ _ _
  refine wpAny_bind (wpAny_field hz rfl (x := .bool false) rfl ?_)
  show wpAny _ _ (field (.ref z) 3 >>= _) _ _ _
  refine wpAny_bind (wpAny_field hz rfl (x := .ref TI) rfl ?_)
  refine wpAny_bind (wpAny_seqItems hTI rfl ?_)
  show wpAny _ _ (Builtin.SmallTypes.ownedTupleIsFree (.ref z) >>= _) _ _ _
  refine wpAny_bind ?_
  unfold Builtin.SmallTypes.ownedTupleIsFree
  refine wpAny_bind (wpAny_field hz rfl (x := .none) rfl (wpAny_pure ?_))
  simp only [if_true]
  refine wpAny_bind (wpAny_rule ?_)
  refine wpAny_bind (wpAny_field hz rfl (x := .ref TO) rfl ?_)
  refine wpAny_bind (wpAny_setField_rec hz (by simp) fun h₁ hz₁ hs₁ => ?_)
  replace hz₁ : IsZip h₁ z TI TO .ellipsis := hz₁
  refine wpAny_bind ?_
  simp only [List.zipIdx_cons, List.zipIdx_nil, List.forIn_cons, List.forIn_nil]
  refine wpAny_bind (wpAny_bind (wpAny_onRaise ?_))
  show wpAny _ _ (Builtin.SmallTypes.nextOf (.ref i1) >>= _) _ _ _
  refine wpAny_bind (D1.done _ _ _ (St_ext D1 s1 hs₁.extBut D.z1) fun h₂ e hs₂ he => ?_)
  obtain ⟨oe, hoe, hce⟩ := he
  have hz₂ : IsZip h₂ z TI TO .ellipsis := hs₂ _ _ D.i1z.symm hz₁
  have hez : e ≠ z := fun x => by subst x; rw [hz₂] at hoe; cases hoe; simp at hce
  refine wpAny_setField_rec hz₂ (by simp) fun h₃ _ hs₃ => hE h₃ e (fun c o c1 _ c3 _ x => hs₃.extBut _ _ c1 (hs₂ _ _ c3 (hs₁.extBut _ _ c1 x))) ⟨oe, hs₃.extBut _ _ hez hoe, hce⟩

theorem zipD_walks (hh : A.handled = none) (D1 : Draws prog w A.in1 i1 fp1 n1 P1 St1) (D2 : Draws prog w A.in1 i2 fp2 n2 P2 St2) (D : ZAp z TI TO i1 i2 fp1 fp2) (h12 : n1 ≤ n2) (hi1 : i1 ∈ fp1) (hi2 : i2 ∈ fp2) :
    WalksT prog w A z ([z, TI, TO] ++ (fp1 ++ fp2)) [z, TO, i1, i2] n1 (fun i vals => ∃ x y, P1 i x ∧ P2 i y ∧ vals = #[x, y])
      (fun i h => IsZip h z TI TO .none ∧ IsPair h TI (.ref i1) (.ref i2) ∧ (∃ a b, IsPair h TO a b) ∧ St1 i h ∧ St2 i h)
      (fun i T h => IsZip h z TI TO (rawInt T) ∧ IsPair h TI (.ref i1) (.ref i2) ∧ (∃ a b, IsPair h TO a b) ∧ St1 (i + 1) h ∧ St2 (i + 1) h ∧ T ≠ z ∧ T ≠ TO ∧ T ≠ i1 ∧ T ≠ i2) where
  sub := fun c hc => by
    simp only [List.mem_cons, List.not_mem_nil, or_false] at hc
    rcases hc with rfl | rfl | rfl | rfl
    · simp
    · simp
    · simp [hi1]
    · simp [hi2]
  frame := fun i h h' hst hk => by
    obtain ⟨hz, hTI, ⟨a, b, hTO⟩, s1, s2⟩ := hst
    exact ⟨hk z (by simp) _ hz, hk TI (by simp) _ hTI, ⟨a, b, hk TO (by simp) _ hTO⟩, D1.frame _ _ _ s1 fun b hb o e => hk b (by simp [hb]) o e, D2.frame _ _ _ s2 fun b hb o e => hk b (by simp [hb]) o e⟩
  item := fun i s Q E hi hst hQ => by
    obtain ⟨hz, hTI, ⟨a, b, hTO⟩, s1, s2⟩ := hst
    have hT : s.TypeIs (.ref z) "zip" := ⟨_, hz, rfl⟩
    have lt : ∀ {c o}, s.heap.get? c = some o → s.heap.objs.size ≠ c := fun e => Nat.ne_of_gt (Heap.lt_size e)
    unfold pyNext
    refine wpAny_bind (wpAny_attempt (wpAny_callSpecial?_slot (name := Str.ofString "__next__") hT PySem.F.slot_zip_next (wpAny_call_entry PySem.F.slot_zip_next hT PySem.F.entry_zip_next ?_ (PySem.F.args_zip_next_1 _))))
    refine zipD_item D1 D2 D hz hTI hTO s1 s2 hi (Nat.lt_of_lt_of_le hi h12) fun x y h' tk hx hy a1 a2 a3 a4 a5 a6 hk => wpAny_pure ?_
    refine hQ s.heap.objs.size #[x, y] h' tk ⟨_, _, hx, hy, rfl⟩ (Nat.le_refl _) ⟨_, a5, rfl, _, rfl⟩ ⟨a1, hk _ _ D.TIz D.TITO D.TIi1 D.TIi2 hTI, ⟨_, _, a2⟩, a3, a4, lt hz, lt hTO, ?_, ?_⟩
      fun c o hc e => hk c o (fun x => hc (by simp [x])) (fun x => hc (by simp [x])) (fun x => hc (by simp [x])) (fun x => hc (by simp [x])) e
    · obtain ⟨o, e⟩ := D1.live _ _ s1; exact lt e
    · obtain ⟨o, e⟩ := D2.live _ _ s2; exact lt e
  go := fun elts k pos i T s Q E hm hQ => by
    obtain ⟨hz, hTI, ⟨a, b, hTO⟩, s1, s2, _⟩ := hm
    refine wpAny_letOwnedTupleGo_zip hz fun h' hz' hs' => hQ h' ⟨hz', hs'.extBut _ _ D.TIz hTI, ⟨a, b, hs'.extBut _ _ D.TOz hTO⟩, St_ext D1 s1 hs'.extBut D.z1, St_ext D2 s2 hs'.extBut D.z2⟩ fun c o hc e => hs'.extBut _ _ (fun x => hc (by simp [x])) e
  apart := fun i T h hm hT => by
    obtain ⟨_, _, _, _, _, t1, t2, t3, t4⟩ := hm
    simp only [List.mem_cons, List.not_mem_nil, or_false] at hT
    rcases hT with rfl | rfl | rfl | rfl
    · exact t1 rfl
    · exact t2 rfl
    · exact t3 rfl
    · exact t4 rfl
  done := fun s Q E hst hQ => by
    obtain ⟨hz, hTI, ⟨a, b, hTO⟩, s1, s2⟩ := hst
    have hT : s.TypeIs (.ref z) "zip" := ⟨_, hz, rfl⟩
    unfold pyNext
    refine wpAny_bind (wpAny_attempt (wpAny_callSpecial?_slot (name := Str.ofString "__next__") hT PySem.F.slot_zip_next (wpAny_call_entry PySem.F.slot_zip_next hT PySem.F.entry_zip_next ?_ (PySem.F.args_zip_next_1 _))))
    refine zipD_end D1 D hz hTI hTO s1 fun h' e hk he => ?_
    obtain ⟨o, ho, hc⟩ := he
    refine wpAny_bind (wpAny_isInstance (T := "StopIteration") (b := true) ⟨o, ho, hc⟩ isSubtype_stop ?_)
    exact wpAny_pure (hQ h' s.toks fun c o hc e => hk c o (fun x => hc (by simp [x])) (fun x => hc (by simp [x])) (fun x => hc (by simp [x])) (fun x => hc (by simp [x])) e)
  self := fun i s Q E hst hQ => wpAny_pyIter_zip hst.1 hQ

end

abbrev zs1 (h : Heap) (x : Str) (t : Tok) : Heap := h.push { cls := .type "str_ascii_iterator", data := .fields #[.str x t, .int 0 0] }
abbrev zs2 (h : Heap) (x : Str) (t : Tok) (l2 : Addr) : Heap := (zs1 h x t).push { cls := .type "list_iterator", data := .fields #[.ref l2, .int 0 0] }
abbrev zs3 (h : Heap) (x : Str) (t : Tok) (l2 : Addr) : Heap := (zs2 h x t l2).push { cls := .type "tuple", data := .seq #[.ref h.objs.size, .ref (zs1 h x t).objs.size] }
abbrev zs4 (h : Heap) (x : Str) (t : Tok) (l2 : Addr) : Heap := (zs3 h x t l2).push { cls := .type "tuple", data := .seq #[.none, .none] }
abbrev zs5 (h : Heap) (x : Str) (t : Tok) (l2 : Addr) : Heap := (zs4 h x t l2).push { cls := .type "zip", data := .fields #[.none, .bool false, .bool false, .ref (zs2 h x t l2).objs.size, .ref (zs3 h x t l2).objs.size] }

set_option maxHeartbeats 4000000 in
theorem zipS_new (x : Str) (t : Tok) (l2 : Addr) (ys : Array Value) (ha : x.cps.all (· < 128) = true) :
    Meets (Builtin.«zip.__new__» ⟨[.type "zip", .str x t, .ref l2], []⟩) (fun _ R s => s.heap.IsList l2 ys ∧
      R (.ok (.ret (.ref (zs4 s.heap x t l2).objs.size))) { s with heap := zs5 s.heap x t l2 }) :=
  .of_wp fun prog w A R s h => by
    obtain ⟨hp, g, d, tk, os⟩ := s; obtain ⟨hl2, h⟩ := h
    have hsub := sub_zip
    have hL2 : Heap.IsList (Shared.heap ⟨hp.push { cls := .type "str_ascii_iterator", data := .fields #[.str x t, .int 0 0] }, g, d, tk, os⟩) l2 ys := Heap.IsList.push hl2 _
    wp_walk using wpAny_pyIter_ascii ha, wpAny_pyIter_list hL2
    exact ⟨_, rfl, h⟩

section
variable {prog : Program} {w : World} {A : Around} {E : Value → Shared → Prop} {s : Shared}
theorem call_zipS {x : Str} {t : Tok} {l2 : Addr} {ys : Array Value} {Q : Value → Shared → Prop} (ha : x.cps.all (· < 128) = true) (hl2 : s.heap.IsList l2 ys)
    (h : ∀ h', IsZip h' (s.heap.objs.size + 4) (s.heap.objs.size + 2) (s.heap.objs.size + 3) .none → IsPair h' (s.heap.objs.size + 2) (.ref s.heap.objs.size) (.ref (s.heap.objs.size + 1)) →
      IsPair h' (s.heap.objs.size + 3) .none .none → h'.IsStrIter s.heap.objs.size "str_ascii_iterator" x t 0 → h'.IsListIter (s.heap.objs.size + 1) l2 0 → h'.objs.size = s.heap.objs.size + 5 →
      Kp s.heap h' → Q (.ref (s.heap.objs.size + 4)) { s with heap := h' }) :
    wpAny (model prog w) A (call (.type "zip") [.str x t, .ref l2]) Q E s := by
  refine callType_new PySem.F.called_zip (by decide) (PySem.F.typeCall_zip_2 _ _) (PySem.F.newCall_zip_2 _ _) (fun obj => PySem.F.args_object_init_3 obj _ _) PySem.F.entry_zip_new (zipS_new x t l2 ys ha) ⟨hl2, ?_⟩
  have z1 : (zs1 s.heap x t).objs.size = s.heap.objs.size + 1 := Heap.size_push ..
  have z2 : (zs2 s.heap x t l2).objs.size = s.heap.objs.size + 2 := by rw [Heap.size_push, z1]
  have z3 : (zs3 s.heap x t l2).objs.size = s.heap.objs.size + 3 := by rw [Heap.size_push, z2]
  have z4 : (zs4 s.heap x t l2).objs.size = s.heap.objs.size + 4 := by rw [Heap.size_push, z3]
  have z5 : (zs5 s.heap x t l2).objs.size = s.heap.objs.size + 5 := by rw [Heap.size_push, z4]
  have g5 : (zs5 s.heap x t l2).get? (zs4 s.heap x t l2).objs.size = some _ := Heap.get?_push_size _ rfl
  have g4 : (zs5 s.heap x t l2).get? (zs3 s.heap x t l2).objs.size = some _ := Heap.get?_push_of_some _ (Heap.get?_push_size _ rfl)
  have g3 : (zs5 s.heap x t l2).get? (zs2 s.heap x t l2).objs.size = some _ := Heap.get?_push_of_some _ (Heap.get?_push_of_some _ (Heap.get?_push_size _ rfl))
  have g2 : (zs5 s.heap x t l2).get? (zs1 s.heap x t).objs.size = some _ := Heap.get?_push_of_some _ (Heap.get?_push_of_some _ (Heap.get?_push_of_some _ (Heap.get?_push_size _ rfl)))
  have g1 : (zs5 s.heap x t l2).get? s.heap.objs.size = some _ := Heap.get?_push_of_some _ (Heap.get?_push_of_some _ (Heap.get?_push_of_some _ (Heap.get?_push_of_some _ (Heap.get?_push_size _ rfl))))
  show _ ∧ _
  rw [z2, z3, z4] at g5
  rw [z1, z2] at g3
  rw [z3] at g4
  rw [z1] at g2
  rw [z4]
  exact ⟨⟨_, g5, rfl⟩, h _ g5 g3 g4 ⟨_, g1, rfl, rfl⟩ ⟨_, g2, rfl, rfl⟩ z5 fun c o x =>
    Heap.get?_push_of_some _ (Heap.get?_push_of_some _ (Heap.get?_push_of_some _ (Heap.get?_push_of_some _ (Heap.get?_push_of_some _ x))))⟩
end
end Mine
end
section -- L1
namespace Mine
open PySem PySem.W PyProof.Rows
set_option maxRecDepth 100000
section
variable {prog : Program} {w : World} {A : Around} {E : Value → Shared → Prop} {s : Shared} {mg mb : Str → Option Value}

theorem hint_bytes {b : Array UInt8} {t : Tok} {Q : Bool → Shared → Prop} (h : Q false s) : wpAny (model prog w) A (Builtin.List.listLengthHint (.bytes b t)) Q E s := by
  have hT : s.TypeIs (.bytes b t) "bytes" := rfl
  unfold Builtin.List.listLengthHint
  refine wpAny_bind (wpAny_specialOf hT FB.slot_bytes_len.lookup ?_)
  generalize hid : ("bytes.__len__" : String) = id0
  wp_delta
  rw [show splitId id0 = some ("bytes", "__len__") from by subst hid; decide +kernel]
  subst hid
  refine wpAny_bind (wpAny_isInstance (T := "bytes") (b := true) hT (by rw [isSubtype_type]; kernel_rfl) ?_)
  refine wpAny_ite_split (fun hab => absurd hab (by decide)) (fun _ => ?_)
  refine wpAny_ite_split (fun _ => ?_) (fun hab => absurd (by decide +kernel) hab)
  refine wpAny_bind (wpAny_typeOf hT ?_)
  exact wpAny_pure h

/-- list(b), b bytes: the new list is laid and filled by the bytes' own iterator -/
theorem fill_bytes {b : Array UInt8} {t : Tok} {R : Result → Shared → Prop} (hh : A.handled = none) (hz : b.size ≤ 100000) (S : Addr) (c₀ : Nat) (hS : s.heap.get? S = some { cls := .type "list", data := .seq #[] c₀ })
    (hR : ∀ h' tk acc c, (∀ a o, a ≠ S → s.heap.get? a = some o → h'.get? a = some o) → h'.get? S = some { cls := .type "list", dict := none, data := .seq acc c, slots := #[] } →
      ItemsOf (fun i v => ∃ c u, b[i]? = some c ∧ v = .int (c.toNat : Int) u) acc b.size → R (.ok (.ret .none)) { s with heap := h', toks := tk }) :
    wpAny (model prog w) A.in1 (Builtin.List.listExtendWith (.ref S) (.bytes b t) .none)
      (fun fin s' => match fin with | .done f => R (.ok f) s' | .again c' => c'.quiet = true ∧ codeAny (model prog w) A c' R s') (fun e s' => R (.error e) s') s := by
  have hn : b.size ≤ sizeLine := Nat.le_trans hz (by decide)
  have hSI : S ≠ s.heap.objs.size := Nat.ne_of_lt (Heap.lt_size hS)
  have hSf : S ∉ [s.heap.objs.size] := by simpa using hSI
  have W := KBw.walks (prog := prog) (w := w) (A := A.in1) hh s.heap.objs.size b t
  have loop : ∀ (h : Heap) (c₁ tk : Nat), KBw.IsBytesIter h s.heap.objs.size b t 0 → (∀ a o, a ≠ S → s.heap.get? a = some o → h.get? a = some o) →
      h.get? S = some { cls := .type "list", data := .seq #[] c₁ } → codeAny (model prog w) A (.builtin "list.extend.loop" ⟨[.ref S, .ref s.heap.objs.size, .none], []⟩) R { s with heap := h, toks := tk } := by
    intro h c₁ tk hst hk hS₁
    refine codeAny_extend_loopS W.toS hn S hSf .none b.size 0 _ #[] c₁ rfl (Nat.zero_le _) hst hS₁ (ItemsOf.nil _) fun s' acc c hm hS' hacc => ?_
    rw [Moved.eq_with hm]
    refine hR s'.heap s'.toks acc c (fun a o ha e => hm.heap a o (fun hmem => ?_) (hk a o ha e)) hS' hacc
    rcases List.mem_cons.mp hmem with e' | hmem
    · exact ha e'
    · exact absurd (Heap.lt_size e) (by rw [List.mem_singleton.mp hmem]; exact Nat.lt_irrefl _)
  have st0 : KBw.IsBytesIter (s.heap.push { cls := .type "bytes_iterator", data := .fields #[.bytes b t, .int 0 0] }) s.heap.objs.size b t 0 := ⟨_, Heap.get?_push_size _ rfl, rfl, rfl⟩
  unfold Builtin.List.listExtendWith
  refine wpAny_bind (wpAny_typeOf (T := "bytes") rfl ?_)
  have h1 : Builtin.List.listSameRef (.ref S) (.bytes b t) = false := rfl
  have h2 : (Value.type "bytes" == Value.type "list") = false := by decide
  have h3 : (Value.type "bytes" == Value.type "tuple") = false := by decide
  simp only [h1, h2, h3, Bool.or_false, Bool.false_eq_true, if_false]
  refine wpAny_bind (KBw.pyIter_bytes ?_)
  have hS₁ := Heap.get?_push_of_some { cls := .type "bytes_iterator", data := .fields #[.bytes b t, .int 0 0] } hS
  refine wpAny_bind (wpAny_holding (hint_bytes ?_))
  refine wpAny_ite_split (fun hf => absurd hf (by decide)) (fun _ => wpAny_pure ⟨plainId_quiet PySem.F.plain_extend_loop _, loop _ c₀ _ st0 (fun a o _ e => Heap.get?_push_of_some _ e) hS₁⟩)
end
end Mine
end
section -- L2
namespace Mine
open PySem PySem.W PyProof.Rows
set_option maxRecDepth 100000
section
variable {prog : Program} {w : World} {A : Around} {E : Value → Shared → Prop} {s : Shared} {mg mb : Str → Option Value}

theorem ints_of_items {b : Array UInt8} {acc : Array Value} (h : ItemsOf (fun i v => ∃ c u, b[i]? = some c ∧ v = .int (c.toNat : Int) u) acc b.size) : IntsAre acc.toList (KBw.bInts b) := by
  obtain ⟨bl⟩ := b
  obtain ⟨xs⟩ := acc
  obtain ⟨h1, h2⟩ := h
  simp only [List.size_toArray, List.getElem?_toArray] at h1 h2
  show IntsAre xs (bl.map fun c => (c.toNat : Int))
  induction xs generalizing bl with
  | nil =>
    cases bl with
    | nil => exact .nil
    | cons c bl => simp at h1
  | cons v xs ih =>
    cases bl with
    | nil => simp at h1
    | cons c bl =>
      obtain ⟨c', u, hc, rfl⟩ := h2 0 v (by simp)
      simp at hc; subst hc
      exact .cons _ _ (ih bl (by simpa using h1) fun j v hv => by simpa using h2 (j + 1) v (by simpa using hv))

theorem call_listBytes {b : Array UInt8} {t : Tok} {Q : Value → Shared → Prop} (hh : A.handled = none) (hz : b.size ≤ 100000)
    (h : ∀ D vs h' tk, s.heap.objs.size ≤ D → Kp s.heap h' → h'.IsList D (List.toArray vs) → IntsAre vs (KBw.bInts b) → Q (.ref D) { s with heap := h', toks := tk }) :
    wpAny (model prog w) A (call (.type "list") [.bytes b t]) Q E s := by
  refine callType_codes (Q₁ := fun obj s₁ => obj = .ref s.heap.objs.size ∧ s₁ = { s with heap := s.heap.push { cls := .type "list", data := .seq #[] } }) PySem.F.called_list (PySem.F.typeCall_list_1 _) PySem.F.entry_list_init
    (code_list_new _ ⟨rfl, rfl⟩) fun obj s₁ h₁ => ?_
  obtain ⟨rfl, rfl⟩ := h₁
  have hS : (s.heap.push { cls := .type "list", data := .seq #[] }).get? s.heap.objs.size = some { cls := .type "list", data := .seq #[] } := Heap.get?_push_size _ rfl
  refine ⟨⟨_, hS, rfl⟩, PySem.F.args_list_init_2 _ _, ?_⟩
  show wpAny _ _ (do let old ← Builtin.List.listItems (.ref s.heap.objs.size); Builtin.List.listUpdate (.ref s.heap.objs.size) (fun _ => #[]); letGo old.toList.reverse; Builtin.List.listExtendWith (.ref s.heap.objs.size) (.bytes b t) .none) _ _ _
  refine wpAny_bind ?_
  unfold Builtin.List.listItems
  refine wpAny_bind (wpAny_seqItems hS rfl (wpAny_pure ?_))
  show wpAny _ _ (updateSeq s.heap.objs.size (fun _ => #[]) >>= fun _ => letGo (#[] : Array Value).toList.reverse >>= fun _ => Builtin.List.listExtendWith (.ref s.heap.objs.size) (.bytes b t) .none) _ _ _
  refine wpAny_bind (wpAny_updateSeq hS rfl ?_)
  have hS₂ := Heap.get?_update_self (Obj.mapSeq (fun _ => (#[] : Array Value))) hS rfl
  refine wpAny_bind (wpAny_letGo ?_)
  refine fill_bytes (A := A.in1) hh hz s.heap.objs.size _ hS₂ fun h' tk acc c hk hS' hacc => ?_
  refine ⟨rfl, h _ acc.toList h' tk (Nat.le_refl _) (fun a o e => hk a o (Nat.ne_of_lt (Heap.lt_size e)) ?_) ⟨_, hS', rfl, c, by rw [Array.toArray_toList]⟩ (ints_of_items hacc)⟩
  exact (Heap.get?_update_other _ _ (Ne.symm (Nat.ne_of_lt (Heap.lt_size e)))).trans (Heap.get?_push_of_some _ e)

theorem isi_bytes {b : Array UInt8} {t : Tok} {Q : Value → Shared → Prop} (h : Q (.bool true) s) : wpAny (model prog w) A (call (.builtin "isinstance") [.bytes b t, .type "bytes"]) Q E s :=
  call_isinstance (isinstance_true (Tx := "bytes") F.isi_meta_bytes (by rw [isSubtype_type]; kernel_rfl)) ⟨rfl, h⟩

/-- two tables hold the same -/
def SameT (T U : Tb) : Prop := T.length = U.length ∧ ∀ p ∈ T, get U p.1 = some p.2

theorem hits_of {A : Around} {kb : List (Str × Value)} {U : Tb} (hU : IsT kb U) : ∀ {ka : List (Str × Value)} {T : Tb}, IsT ka T → (∀ p ∈ T, get U p.1 = some p.2) → KeqHits A s kb ka true
  | _, _, .nil, _ => .nil
  | _, _, .cons (k := k) (c := c) (t := t) hT, h => by
    obtain ⟨t', ht'⟩ := hU.get_some (h (k, c) (.head _))
    have := KeqHits.hit (A := A) (s := s) (kb := kb) (v := .int c t) ht' (SeqAt.EqAt.int_int c t c t') (hits_of hU hT fun p hp => h p (.tail _ hp))
    simpa using this

theorem ne_tabs {a b : Addr} {T U : Tb} {Q : Value → Shared → Prop} (ha : (a == sysModules) = false) (hb : (b == sysModules) = false) (hT : Tab prog w s.heap a T) (hU : Tab prog w s.heap b U) (hu : A.units < cLine) (hs : SameT T U) (h : Q (.bool false) s) :
    wpAny (model prog w) A (compareOp .NotEq (.ref a) (.ref b)) Q E s := by
  obtain ⟨ka, da, ia⟩ := hT
  obtain ⟨kb, db, ib⟩ := hU
  refine keq_ne ha hb da db hu (fun _ => hits_of ib ia hs.2) ?_
  have e : ka.length = kb.length := by rw [ia.length, ib.length, hs.1]
  rw [e]
  simpa using h

theorem eqs_of {A : Around} {vs us : List Value} {ns : List Int} (hv : IntsAre vs ns) (hu : IntsAre us ns) (j : Nat) (h1 : j < vs.toArray.size) (h2 : j < us.toArray.size) : SeqAt.EqAt A s vs.toArray[j] us.toArray[j] true := by
  obtain ⟨c, t, e1, hc⟩ := hv.at j (vs.toArray[j]) (by simp)
  obtain ⟨c', t', e2, hc'⟩ := hu.at j (us.toArray[j]) (by simp)
  rw [hc] at hc'
  cases hc'
  rw [e1, e2]
  have := SeqAt.EqAt.int_int (A := A) (s := s) c t c t'
  simpa using this
theorem ne_ints {a b : Addr} {vs us : List Value} {ns : List Int} {Q : Value → Shared → Prop} (ha : s.heap.IsList a vs.toArray) (hb : s.heap.IsList b us.toArray) (hv : IntsAre vs ns) (hu : IntsAre us ns) (hun : A.units < cLine) (h : Q (.bool false) s) :
    wpAny (model prog w) A (compareOp .NotEq (.ref a) (.ref b)) Q E s := by
  have hsz : vs.toArray.size = us.toArray.size := by rw [List.size_toArray, List.size_toArray, hv.length, hu.length]
  refine SeqAt.RcNeAt.lists (e := fun _ => true) ha hb hsz hun (fun j h1 h2 => eqs_of hv hu j h1 h2) prog w E Q ?_
  rw [show (List.range vs.toArray.size).all (fun _ => true) = true from by simp]
  exact h
theorem eq_ints {a b : Addr} {vs us : List Value} {ns : List Int} {Q : Value → Shared → Prop} (ha : s.heap.IsList a vs.toArray) (hb : s.heap.IsList b us.toArray) (hv : IntsAre vs ns) (hu : IntsAre us ns) (hun : A.units < cLine) (h : Q (.bool true) s) :
    wpAny (model prog w) A (compareOp .Eq (.ref a) (.ref b)) Q E s := by
  have hsz : vs.toArray.size = us.toArray.size := by rw [List.size_toArray, List.size_toArray, hv.length, hu.length]
  refine SeqAt.RcAt.lists (e := fun _ => true) ha hb hsz hun (fun j h1 h2 => eqs_of hv hu j h1 h2) prog w E Q ?_
  rw [show (List.range vs.toArray.size).all (fun _ => true) = true from by simp]
  exact h

theorem add_ints {a b : Addr} {vs us : List Value} {ns ms : List Int} {Q : Value → Shared → Prop} (ha : s.heap.IsList a vs.toArray) (hb : s.heap.IsList b us.toArray) (hv : IntsAre vs ns) (hu : IntsAre us ms) (hz : ns.length + ms.length ≤ 100000)
    (h : ∀ o h', h' = s.heap.push o → h'.get? s.heap.objs.size = some o → SideO o (ns ++ ms) → Q (.ref s.heap.objs.size) { s with heap := h' }) :
    wpAny (model prog w) A (binaryOp .Add (.ref a) (.ref b)) Q E s := by
  obtain ⟨⟨cls, dd, data, sl⟩, ho, hc, n, hd⟩ := id ha
  obtain ⟨⟨cls2, dd2, data2, sl2⟩, ho2, hc2, n2, hd2⟩ := id hb
  simp only at hc hd hc2 hd2
  subst hc hd hc2 hd2
  have e : vs.toArray ++ us.toArray = (vs ++ us).toArray := by simp
  have hsl : (100000 : Nat) ≤ sizeLine := by decide
  refine concat_meets ⟨_, ho, rfl⟩ ⟨_, ho2, rfl⟩ noFill_list_add seq_list_add PySem.F.slot_list_add PySem.F.entry_list_add (PySem.F.args_list_add_2 _ _) (list_addW a b vs.toArray us.toArray n n2 dd dd2 sl sl2 (by rw [List.size_toArray, List.size_toArray, hv.length, hu.length]; omega)) ⟨ho, ho2, ?_⟩
  rw [e]
  exact h _ _ rfl (Heap.get?_push_size _ rfl) ⟨rfl, _, _, rfl, hv.append hu⟩
end
end Mine
end
section -- L3
namespace Mine
open PySem PySem.W PyProof.Rows
set_option maxRecDepth 100000

def lawSt (k : Nat) : Stmt := (bodyOf 17).getD k default
theorem law_body : bodyOf 17 = [lawSt 0, lawSt 1, lawSt 2, lawSt 3, lawSt 4, lawSt 5, lawSt 6, lawSt 7, lawSt 8, lawSt 9, lawSt 10, lawSt 11, lawSt 12] := by rfl

/-- what law makes of its script -/
def drawnT (ns : List Int) : List Int := (ns.take 7).map (·.fmod 1000000)
def cellsT (ns : List Int) : List Int := drawnT ns ++ [21, 20, 0, 1, 0, 5, 0].drop (drawnT ns).length

abbrev lawEnv (L a : Addr) (cdv : Value) : Env := envOfC "law" (scopeOf 17) L a cdv

section
variable {prog : Program} {w : World} {A : Around} {E : Value → Shared → Prop} {s : Shared} {mg mb : Str → Option Value}
variable {L a : Addr} {cdv : Value} {m cm : Str → Option Value} {tabs : List (Addr × Tb)} {ob : List (Addr × Obj)} {s' : Shared} {Q : Flow → Shared → Prop}

/-- law's state -/
abbrev LSt (prog : Program) (w : World) (s : Shared) (L a : Addr) (cdv : Value) := DSt prog w s (lawEnv L a cdv).locals (lawEnv L a cdv).cells


/-- a list's slice by one or two bounds -/
theorem wp_slice {env : Env} {value : PySem.Expr} {lower upper : Option PySem.Expr} {p pos : Pos} {R : Value → Shared → Prop}
    (h : wpAny (model prog w) A (eval value env) (fun o s₁ => wpAny (model prog w) A (evalPart lower env) (fun vl s₂ => wpAny (model prog w) A (evalPart upper env) (fun vu s₃ =>
      ∃ l items lo hi, o = .ref l ∧ s₃.heap.IsList l items ∧ items.size ≤ 100000 ∧ IsPart vl lo ∧ IsPart vu hi ∧
        ∀ D s₄, s₃.heap.objs.size ≤ D → Keeps s₃ s₄ → s₄.heap.get? D = some { cls := .type "list", data := .seq (slicePick items lo hi none) } → R (.ref D) s₄) E s₂) E s₁) E s) :
    wpAny (model prog w) A (eval (.Subscript value (.Slice lower upper none p) pos) env) R E s := by
  refine Subscript_ (wpAny_mono h (fun o s₁ h₁ => wpAny_Slice (wpAny_mono h₁ (fun vl s₂ h₂ => wpAny_mono h₂ (fun vu s₃ h₃ => ?_) fun _ _ x => x) fun _ _ x => x)) fun _ _ x => x)
  obtain ⟨l, items, lo, hi, rfl, hl, hz, hlo, hhi, hR⟩ := h₃
  rw [evalPart_none]
  refine wpAny_pure ?_
  have hT : ({ s₃ with heap := s₃.heap.push { cls := .type "slice", data := .fields #[vl, vu, .none] } } : Shared).TypeIs (.ref l) "list" := (hl.push _).typeIs
  refine tail_any hT list_getitem_lookup (wpAny_getItem_list_slice (hl.push _) (Heap.IsSliceOf.new ..) hlo hhi .none (by simp) ?_ (Nat.le_trans hz (by decide))) (by with_unfolding_all rfl)
  refine hR _ _ ?_ ⟨_, _, rfl, fun b o e => Heap.get?_push_of_some _ (Heap.get?_push_of_some _ e)⟩ (Heap.get?_push_size _ rfl)
  show s₃.heap.objs.size ≤ (s₃.heap.push _).objs.size
  rw [Heap.size_push]; exact Nat.le_succ _

theorem DSt.keeps {L : Addr} {cs : List (Str × Addr)} {m cm : Str → Option Value} {tabs : List (Addr × Tb)} {ob : List (Addr × Obj)} {s' s'' : Shared} (x : DSt prog w s L cs m cm tabs ob s') (k : Keeps s' s'') : DSt prog w s L cs m cm tabs ob s'' := by
  obtain ⟨h, tk, rfl, hk⟩ := k
  exact x.grow hk
theorem Keeps.kp {s s' : Shared} (k : Keeps s s') : Kp s.heap s'.heap := by
  obtain ⟨h, tk, rfl, hk⟩ := k
  exact hk

/-- drawn = [int(cell) % 10 ** 6 for cell in script[:7]] -/
theorem law_0 {l : Addr} {vs : List Value} {ns : List Int} (hh : A.handled = none) (W : Wd mg mb s.heap) (x : LSt prog w s L a cdv m cm tabs ob s') (hm : m (Str.ofString "script") = some (.ref l)) (hl : s.heap.IsList l vs.toArray) (hv : IntsAre vs ns) (hz : ns.length ≤ 1000)
    (h : ∀ D o s'', SideO o (drawnT ns) → LSt prog w s L a cdv (fun y => if y = Str.ofString "drawn" then some (.ref D) else m y) cm tabs ((D, o) :: ob) s'' → Q .next s'') :
    wpAny (model prog w) A (exec (lawSt 0) (lawEnv L a cdv)) Q No s' := by
  have hsl : (100000 : Nat) ≤ sizeLine := by decide
  have hl' : s'.heap.IsList l vs.toArray := hl.at fun o e => x.keep _ _ e
  refine wp_Assign_LC (cl := []) (by rfl) (by rfl) rfl (by decide) ?_
  refine wp_slice ?_
  refine nm x.ns hm ?_
  rw [evalPart_none]
  refine wpAny_pure ?_
  rw [evalPart_some]
  refine wpAny_Constant_int ?_
  refine ⟨l, vs.toArray, none, some 7, rfl, hl', ?_, .none, .int 7 _, ?_⟩
  · have := hv.length; simp; omega
  intro D1 s1 hD1 hk1 hoD1
  have hi : IntsAre (slicePick vs.toArray none (some 7) none).toList (ns.take 7) := kmk_upto hv (by decide)
  have x1 := (x.toks _).keeps hk1
  have W1 := W.keeps x1.keep
  have hl1 : s1.heap.IsList D1 (slicePick vs.toArray none (some 7) none).toList.toArray := ⟨_, hoD1, rfl, 0, by rw [Array.toArray_toList]⟩
  refine ints_src (f := (·.fmod 1000000)) hh hl1 hi (by simp; omega) (by decide) rfl rfl ?_ ?_
  · intro C j d td s4 m4 hj hn4 hm4 hk4
    refine wpAny_BinOp ?_
    refine Call_ (nb (W1.keeps hk4) W.f_int PyProof.Rows.Boot.«int» ?_)
    refine PyProof.Rows.callWith_type1 ?_
    refine args_cons ?_
    refine nm hn4 hm4 ?_
    refine args_nil ?_
    refine call_int_int ?_
    refine wpAny_BinOp ?_
    refine wpAny_Constant_int ?_
    refine wpAny_Constant_int ?_
    refine pow_int_small (by decide) (by decide) (by decide) ?_
    refine PyProof.Rows.mod_int (by decide) ?_
    exact ⟨keeps_tok _ _, _, rfl⟩
  · intro D C h' tk ys hD hC hns hl2 hi2 hk2
    refine ⟨rfl, ?_⟩
    obtain ⟨oC, hoC⟩ := sideO_of hl2 hi2
    obtain ⟨mC, hnC⟩ := hns
    refine wpAny_mono (x1.compStore (n := Str.ofString "drawn") (v := .ref D) (env := lawEnv L a cdv) hk2 hnC (by rw [hC]; exact Nat.le_succ_of_le hD) [(D, oC)] (fun p hp => ?_) rfl rfl) (fun _ s16 h16 => ⟨h16.1, fun h17 hs17 => ?_⟩) fun _ _ x => x
    · rw [List.mem_singleton.mp hp]
      exact ⟨hoC.1, hD, by rw [hC]; exact Nat.ne_of_lt (Nat.lt_succ_self _)⟩
    exact h D oC _ hoC.2 (h16.2 h17 hs17)
end
end Mine
end
section -- L4
namespace Mine
open PySem PySem.W PyProof.Rows
set_option maxRecDepth 100000
section
variable {prog : Program} {w : World} {A : Around} {E : Value → Shared → Prop} {s : Shared} {mg mb : Str → Option Value}
variable {L a : Addr} {cdv : Value} {m cm : Str → Option Value} {tabs : List (Addr × Tb)} {ob : List (Addr × Obj)} {s' : Shared} {Q : Flow → Shared → Prop}

theorem wp_list7 {env : Env} {a b c d e f g : Int} {ka kb kc kd ke kf kg : Nat} {pa pb pc pd pe pf pg pl : Pos} {Q : Value → Shared → Prop}
    (h : ∀ D o s4, s.heap.objs.size ≤ D → Keeps s s4 → s4.heap.get? D = some o → SideO o [a, b, c, d, e, f, g] → Q (.ref D) s4) :
    wpAny (model prog w) A (eval (.List [.Constant (.int a) ka pa, .Constant (.int b) kb pb, .Constant (.int c) kc pc, .Constant (.int d) kd pd, .Constant (.int e) ke pe, .Constant (.int f) kf pf, .Constant (.int g) kg pg] pl) env) Q E s := by
  refine wpAny_List ?_
  refine args_cons ?_
  refine wpAny_Constant_int ?_
  refine args_cons ?_
  refine wpAny_Constant_int ?_
  dsimp only
  refine args_cons ?_
  refine wpAny_Constant_int ?_
  dsimp only
  refine args_cons ?_
  refine wpAny_Constant_int ?_
  dsimp only
  refine args_cons ?_
  refine wpAny_Constant_int ?_
  dsimp only
  refine args_cons ?_
  refine wpAny_Constant_int ?_
  dsimp only
  refine args_cons ?_
  refine wpAny_Constant_int ?_
  dsimp only
  refine args_nil ?_
  refine ⟨by show 7 ≤ sizeLine; decide, ?_⟩
  exact h _ _ _ (Nat.le_refl _) ⟨_, _, rfl, fun b o e => Heap.get?_push_of_some _ e⟩ (Heap.get?_push_size _ rfl) ⟨rfl, _, _, rfl, .cons _ _ (.cons _ _ (.cons _ _ (.cons _ _ (.cons _ _ (.cons _ _ (.cons _ _ .nil))))))⟩

/-- cells = drawn + [21, 20, 0, 1, 0, 5, 0][len(drawn):] -/
theorem law_1 {D : Addr} {oD : Obj} {ns : List Int} (W : Wd mg mb s.heap) (x : LSt prog w s L a cdv m cm tabs ob s') (hm : m (Str.ofString "drawn") = some (.ref D)) (hD : (D, oD) ∈ ob) (hs : SideO oD (drawnT ns))
    (h : ∀ C o s'', SideO o (cellsT ns) → LSt prog w s L a cdv m (fun y => if y = Str.ofString "cells" then some (.ref C) else cm y) tabs ((C, o) :: ob) s'' → Q .next s'') :
    wpAny (model prog w) A (exec (lawSt 1) (lawEnv L a cdv)) Q No s' := by
  have hdl : (drawnT ns).length ≤ 7 := by simp [drawnT]; omega
  refine wpAny_Assign_Name ?_ ?_
  rotate_left
  · rfl
  refine wpAny_BinOp ?_
  refine nm x.ns hm ?_
  refine wp_slice ?_
  refine wp_list7 ?_
  intro D7 o7 s7 hD7 hk7 ho7 hs7
  have x7 := x.keeps hk7
  obtain ⟨vd, hld, hid⟩ := list_of_side (x7.ob _ hD).1 hs
  obtain ⟨v7, hl7, hi7⟩ := list_of_side ho7 hs7
  have hsz : vd.toArray.size = (drawnT ns).length := by rw [List.size_toArray, hid.length]
  rw [evalPart_some, evalPart_none]
  refine Call_ (nb (W.keeps x7.keep) W.f_len PyProof.Rows.Boot.«len» ?_)
  refine PyProof.Rows.callWith_builtin1 ?_
  refine args_cons ?_
  refine nm x7.ns hm ?_
  refine args_nil ?_
  refine len_list hld (by rw [hsz]; omega) ?_
  refine wpAny_pure ?_
  refine ⟨D7, v7.toArray, some (drawnT ns).length, none, rfl, hl7, ?_, ?_, .none, ?_⟩
  · rw [List.size_toArray, hi7.length]; decide
  · rw [hsz]; exact .int _ _
  intro D8 s8 hD8 hk8 ho8
  have x8 := (x7.toks _).keeps hk8
  obtain ⟨vd8, hld8, hid8⟩ := list_of_side (x8.ob _ hD).1 hs
  have hi8 : IntsAre (slicePick v7.toArray (some ((drawnT ns).length : Int)) none none).toList (([21, 20, 0, 1, 0, 5, 0] : List Int).drop (drawnT ns).length) := by
    have := kmk_from hi7 (x := ((drawnT ns).length : Int)) (Int.natCast_nonneg _)
    rwa [Int.toNat_natCast] at this
  have hl8 : s8.heap.IsList D8 (slicePick v7.toArray (some ((drawnT ns).length : Int)) none none).toList.toArray := ⟨_, ho8, rfl, 0, by rw [Array.toArray_toList]⟩
  refine add_ints hld8 hl8 hid8 hi8 (by simp; omega) ?_
  intro o h' he ho hso
  have k9 : Kp s8.heap h' := fun b o e => by rw [he]; exact Heap.get?_push_of_some _ e
  have x9 := x8.newObj (tk := s8.toks) (Nat.le_refl _) ho k9
  refine x9.storeC (env := lawEnv L a cdv) rfl rfl (c := L + 1) rfl fun s10 x10 => ?_
  exact h _ _ _ hso x10
end
end Mine
end
section -- L5
namespace Mine
open PySem PySem.W PyProof.Rows
set_option maxRecDepth 100000
section
variable {prog : Program} {w : World} {A : Around} {E : Value → Shared → Prop} {s : Shared} {mg mb : Str → Option Value}
variable {L a : Addr} {cdv : Value} {m cm : Str → Option Value} {tabs : List (Addr × Tb)} {ob : List (Addr × Obj)} {s' : Shared} {Q : Flow → Shared → Prop}

/-- x[k], x in a cell, a list of ints -/
theorem at_cell {env : Env} {x : Str} {px pc pos : Pos} {kd : Nat} {c l : Addr} {o : Obj} {xs : List Int} {k v : Int} {Q : Value → Shared → Prop} (hcell : s.heap.IsCell c (some (.ref l))) (ho : s.heap.get? l = some o) (hs : SideO o xs) (h0 : 0 ≤ k) (hx : xs[k.toNat]? = some v) (hz : xs.length ≤ 1000)
    (h : ∀ t tk, Q (.int v t) { s with toks := tk }) (hc : env.cells.lookup x = some c := by rfl) (hk : env.scope.kind = .function := by rfl) (hl : env.kindOf x = some .cell := by rfl) (hd : (x == ("__debug__" : Str)) = false := by decide) :
    wpAny (model prog w) A (eval (.Subscript (.Name x px) (.Constant (.int k) kd pc) pos) env) Q E s := by
  obtain ⟨vs, hls, hi⟩ := list_of_side ho hs
  refine Subscript_ ?_
  refine nc hcell ?_ hc hk hl hd
  refine wpAny_Constant_int ?_
  have hls' : ({ s with toks := s.toks + 1 } : Shared).heap.IsList l vs.toArray := hls
  refine tail_any (T := "list") hls'.typeIs slot_list_getitem.lookup ?_ (by with_unfolding_all rfl)
  have hlt : k.toNat < xs.length := (List.getElem?_eq_some_iff.mp hx).1
  have hlv : k.toNat < vs.length := by rw [hi.length]; exact hlt
  obtain ⟨c', t', e, hc'⟩ := hi.at k.toNat (vs[k.toNat]) (List.getElem?_eq_getElem hlv)
  rw [hx] at hc'
  cases hc'
  refine wpAny_getItem_list (x := .int v t') hls' h0 (by omega) ?_ (h _ _)
  simp [hlv, e]

/-- a written list of three ints -/
theorem wp_ints3 {env : Env} {e1 e2 e3 : PySem.Expr} {pl : Pos} {k1 k2 k3 : Int} {Q : Value → Shared → Prop}
    (g1 : ∀ (s' : Shared) (Q : Value → Shared → Prop), Kp s.heap s'.heap → (∀ t tk, Q (.int k1 t) { s' with toks := tk }) → wpAny (model prog w) A (eval e1 env) Q E s')
    (g2 : ∀ (s' : Shared) (Q : Value → Shared → Prop), Kp s.heap s'.heap → (∀ t tk, Q (.int k2 t) { s' with toks := tk }) → wpAny (model prog w) A (eval e2 env) Q E s')
    (g3 : ∀ (s' : Shared) (Q : Value → Shared → Prop), Kp s.heap s'.heap → (∀ t tk, Q (.int k3 t) { s' with toks := tk }) → wpAny (model prog w) A (eval e3 env) Q E s')
    (t1 : starEach [e1, e2, e3] env = (false, eval e1 env) :: starEach [e2, e3] env) (t2 : starEach [e2, e3] env = (false, eval e2 env) :: starEach [e3] env) (t3 : starEach [e3] env = (false, eval e3 env) :: starEach [] env)
    (h : ∀ D o s4, s.heap.objs.size ≤ D → Keeps s s4 → s4.heap.get? D = some o → SideO o [k1, k2, k3] → Q (.ref D) s4) :
    wpAny (model prog w) A (eval (.List [e1, e2, e3] pl) env) Q E s := by
  refine wpAny_List ?_
  refine args_cons ?_ t1
  refine g1 _ _ (fun _ _ e => e) ?_
  intro ta tk1
  refine args_cons ?_ t2
  refine g2 _ _ (fun _ _ e => e) ?_
  intro tb tk2
  refine args_cons ?_ t3
  refine g3 _ _ (fun _ _ e => e) ?_
  intro tc tk3
  refine args_nil ?_
  exact ⟨by show 3 ≤ sizeLine; decide, h _ _ _ (Nat.le_refl _) ⟨_, _, rfl, fun b o e => Heap.get?_push_of_some _ e⟩ (Heap.get?_push_size _ rfl) ⟨rfl, _, _, rfl, .cons _ _ (.cons _ _ (.cons _ _ .nil))⟩⟩

def cellAt (ns : List Int) (k : Nat) : Int := (cellsT ns).getD k 0
def countsT (ns : List Int) : List Int := [(cellAt ns 0).fmod 41 - 20, (cellAt ns 1).fmod 41 - 20, (cellAt ns 2).fmod 20 + 1]
theorem cellsT_length (ns : List Int) : (cellsT ns).length = 7 := by
  have : (drawnT ns).length ≤ 7 := by simp [drawnT]; omega
  simp [cellsT]; omega
theorem cellAt_get (ns : List Int) {k : Nat} (hk : k < 7) : (cellsT ns)[k]? = some (cellAt ns k) := by
  rw [cellAt, List.getD_eq_getElem?_getD, List.getElem?_eq_getElem (by rw [cellsT_length]; exact hk)]; rfl

/-- counts = [..] -/
theorem law_2 {C : Addr} {oC : Obj} {ns : List Int} (x : LSt prog w s L a cdv m cm tabs ob s') (hm : cm (Str.ofString "cells") = some (.ref C)) (hC : (C, oC) ∈ ob) (hs : SideO oC (cellsT ns))
    (h : ∀ D o s'', SideO o (countsT ns) → LSt prog w s L a cdv (fun y => if y = Str.ofString "counts" then some (.ref D) else m y) cm tabs ((D, o) :: ob) s'' → Q .next s'') :
    wpAny (model prog w) A (exec (lawSt 2) (lawEnv L a cdv)) Q No s' := by
  have hcell : s'.heap.IsCell (L + 1) (some (.ref C)) := by
    have := x.ic.cell (Str.ofString "cells") (L + 1) rfl
    rwa [hm] at this
  have hob := (x.ob _ hC).1
  have hz : (cellsT ns).length ≤ 1000 := by rw [cellsT_length]; decide
  refine wpAny_Assign_Name ?_ ?_
  rotate_left
  · rfl
  refine wp_ints3 (k1 := (cellAt ns 0).fmod 41 - 20) (k2 := (cellAt ns 1).fmod 41 - 20) (k3 := (cellAt ns 2).fmod 20 + 1) ?_ ?_ ?_ ?_ ?_ ?_ ?_
  rotate_left 3
  · rfl
  · rfl
  · rfl
  rotate_left
  · intro s4 Q' k q
    refine wpAny_BinOp ?_
    refine wpAny_BinOp ?_
    refine at_cell (c := L + 1) (hcell.keeps k) (k _ _ hob) hs (by decide) (cellAt_get ns (by decide)) hz fun t tk => ?_
    refine wpAny_Constant_int ?_
    refine PyProof.Rows.mod_int (by decide) ?_
    refine wpAny_Constant_int ?_
    refine PyProof.Rows.sub_int ?_
    exact q _ _
  · intro s4 Q' k q
    refine wpAny_BinOp ?_
    refine wpAny_BinOp ?_
    refine at_cell (c := L + 1) (hcell.keeps k) (k _ _ hob) hs (by decide) (cellAt_get ns (by decide)) hz fun t tk => ?_
    refine wpAny_Constant_int ?_
    refine PyProof.Rows.mod_int (by decide) ?_
    refine wpAny_Constant_int ?_
    refine PyProof.Rows.sub_int ?_
    exact q _ _
  · intro s4 Q' k q
    refine wpAny_BinOp ?_
    refine wpAny_BinOp ?_
    refine at_cell (c := L + 1) (hcell.keeps k) (k _ _ hob) hs (by decide) (cellAt_get ns (by decide)) hz fun t tk => ?_
    refine wpAny_Constant_int ?_
    refine PyProof.Rows.mod_int (by decide) ?_
    refine wpAny_Constant_int ?_
    refine PyProof.Rows.add_int ?_
    exact q _ _
  · intro D o s4 hD hk ho hso
    obtain ⟨h4, tk4, rfl, hk4⟩ := hk
    have x4 := x.newObj (tk := tk4) hD ho hk4
    refine x4.store (env := lawEnv L a cdv) rfl rfl fun s5 x5 => ?_
    exact h _ _ _ hso x5
end
end Mine
end
section -- L6
namespace Mine
open PySem PySem.W PySem.Calls PyProof.Rows
set_option maxRecDepth 100000
section
variable {prog : Program} {w : World} {A : Around} {E : Value → Shared → Prop} {s : Shared} {mg mb : Str → Option Value}
variable {L a : Addr} {cdv : Value} {m cm : Str → Option Value} {tabs : List (Addr × Tb)} {ob : List (Addr × Obj)} {s' : Shared} {Q : Flow → Shared → Prop}

/-- a written list of one int -/
theorem wp_ints1 {env : Env} {e1 : PySem.Expr} {pl : Pos} {k1 : Int} {Q : Value → Shared → Prop}
    (g1 : ∀ (s' : Shared) (Q : Value → Shared → Prop), Kp s.heap s'.heap → (∀ t tk, Q (.int k1 t) { s' with toks := tk }) → wpAny (model prog w) A (eval e1 env) Q E s')
    (t1 : starEach [e1] env = (false, eval e1 env) :: starEach [] env)
    (h : ∀ D o s4, s.heap.objs.size ≤ D → D < s4.heap.objs.size → Keeps s s4 → s4.heap.get? D = some o → SideO o [k1] → Q (.ref D) s4) :
    wpAny (model prog w) A (eval (.List [e1] pl) env) Q E s := by
  refine wpAny_List ?_
  refine args_cons ?_ t1
  refine g1 _ _ (fun _ _ e => e) ?_
  intro ta tk1
  refine args_nil ?_
  exact ⟨by show 1 ≤ sizeLine; decide, h _ _ _ (Nat.le_refl _) (by show _ < (s.heap.push _).objs.size; rw [Heap.size_push]; exact Nat.lt_succ_self _) ⟨_, _, rfl, fun b o e => Heap.get?_push_of_some _ e⟩ (Heap.get?_push_size _ rfl) ⟨rfl, _, _, rfl, .cons _ _ .nil⟩⟩

def wordOf (ns : List Int) (xs : List Int) : List Int := [(cellAt ns 3).fmod 6] ++ xs ++ [(cellAt ns 5).fmod 6]
def wordsT (ns : List Int) : List (List Int) := (pieceT (cellAt ns 4).toNat).map (wordOf ns)

theorem piece_len (c : Nat) {xs : List Int} (h : xs ∈ pieceT c) : xs.length ≤ 3 := by
  unfold pieceT at h
  split at h
  · obtain ⟨z, hz, rfl⟩ := List.mem_map.mp h
    have := pieces_len _ z hz
    simp [this]
  · simp only [List.mem_cons, List.not_mem_nil, or_false] at h
    rcases h with rfl | rfl <;> simp
theorem pieceT_length (c : Nat) : (pieceT c).length = 2 := by
  unfold pieceT
  split
  · simp only [List.length_map]
    unfold piecesOf
    split <;> rfl
  · rfl

theorem sides_at {us : List Value} {news : List (Addr × Obj)} {ss : List (List Int)} (h : SidesAre us news ss) {i : Nat} {v : Value} (hv : us[i]? = some v) : ∃ p xs, v = .ref p.1 ∧ p ∈ news ∧ SideO p.2 xs ∧ ss[i]? = some xs := by
  obtain ⟨l, rfl, hm, hl, hk⟩ := h
  rw [List.getElem?_map] at hv
  cases hq : l[i]? with
  | none => rw [hq] at hv; cases hv
  | some p =>
    rw [hq] at hv
    have hlt : i < l.length := (List.getElem?_eq_some_iff.mp hq).1
    obtain ⟨xs, hx⟩ : ∃ xs, ss[i]? = some xs := ⟨_, List.getElem?_eq_getElem (hl ▸ hlt)⟩
    exact ⟨p, xs, (Option.some.inj hv).symm, hm p (List.mem_of_getElem? hq), hk i p xs hq hx, hx⟩
theorem SidesAre.length {us : List Value} {news : List (Addr × Obj)} {ss : List (List Int)} (h : SidesAre us news ss) : us.length = ss.length := by
  obtain ⟨l, rfl, _, hl, _⟩ := h
  simp [hl]
theorem SidesAre.mono {us : List Value} {news news' : List (Addr × Obj)} {ss : List (List Int)} (h : SidesAre us news ss) (hn : ∀ p ∈ news, p ∈ news') : SidesAre us news' ss := by
  obtain ⟨l, e, hm, r⟩ := h
  exact ⟨l, e, fun p hp => hn p (hm p hp), r⟩

set_option maxHeartbeats 2000000 in
/-- words = [[cells[3] % 6] + side + [cells[5] % 6] for side in _law_piece(cells[4])] -/
theorem law_3 {C : Addr} {oC : Obj} {ns : List Int} (hh : A.handled = none) (W : Wd mg mb s.heap) (rm : Rm A 3) (x : LSt prog w s L a cdv m cm tabs ob s') (hm : cm (Str.ofString "cells") = some (.ref C)) (hC : (C, oC) ∈ ob) (hs : SideO oC (cellsT ns)) (h4 : 0 ≤ cellAt ns 4)
    (h : ∀ D o us news s'', (o.cls = .type "list" ∧ ∃ n, o.data = .seq (List.toArray us) n) → SidesAre us news (wordsT ns) → LSt prog w s L a cdv (fun y => if y = Str.ofString "words" then some (.ref D) else m y) cm tabs ((D, o) :: news ++ ob) s'' → Q .next s'') :
    wpAny (model prog w) A (exec (lawSt 3) (lawEnv L a cdv)) Q No s' := by
  have hcell : s'.heap.IsCell (L + 1) (some (.ref C)) := by
    have := x.ic.cell (Str.ofString "cells") (L + 1) rfl
    rwa [hm] at this
  have hob := (x.ob _ hC).1
  have hz : (cellsT ns).length ≤ 1000 := by rw [cellsT_length]; decide
  obtain ⟨aP, cP, hmP, FP⟩ := W.g11
  obtain ⟨oP, doc, pm, ct, an, hoP, hdP, hcP⟩ := id FP
  refine wp_Assign_LC (cl := [(Str.ofString "cells", L + 1)]) (by rfl) (by rfl) rfl (by decide) ?_
  refine Call_ (ng (W.keeps x.keep) hmP ?_)
  refine callWith_def hdP ?_
  refine args_cons ?_
  refine at_cell (c := L + 1) (v := cellAt ns 4) hcell hob hs (by decide) (cellAt_get ns (k := 4) (by decide)) hz fun t tk => ?_
  refine args_nil ?_
  have e4 : cellAt ns 4 = (((cellAt ns 4).toNat : Nat) : Int) := by omega
  rw [e4]
  have xt := x.toks tk
  refine ⟨xt.keep _ _ hoP, wpAny_call ?_⟩
  refine call_piece (FP.keeps xt.keep) (W.keeps xt.keep) (rm.mono (by decide)) ?_
  intro D1 ys news h1 tk1 hD1 hk1 hl1 hn1 hsd
  have x1 := xt.grow (tk := tk1) hk1
  refine wpAny_pyIter_list hl1 ?_
  generalize hs2 : ({ s' with heap := h1, toks := tk1 } : Shared) = s2 at x1 ⊢
  have hl2 : s2.heap.IsList D1 ys.toArray := by rw [← hs2]; exact hl1
  have hn2 : ∀ p ∈ news, s2.heap.get? p.1 = some p.2 := by rw [← hs2]; exact hn1
  clear hl1 hn1
  have hcell2 : s2.heap.IsCell (L + 1) (some (.ref C)) := by
    have := x1.ic.cell (Str.ofString "cells") (L + 1) rfl
    rwa [hm] at this
  have hob2 := (x1.ob _ hC).1
  have hll := list_lt hl2
  have hne : D1 ≠ s2.heap.objs.size := Nat.ne_of_lt hll
  have kI : ∀ o', Kp s2.heap (s2.heap.push o') := fun o' b o e => Heap.get?_push_of_some _ e
  have Wk := Walks.list (prog := prog) (w := w) hh s2.heap.objs.size D1 hne ys.toArray
  have hst : (s2.heap.push { cls := .type "list_iterator", data := .fields #[.ref D1, .int 0 0] }).IsListIter s2.heap.objs.size D1 0 ∧ (s2.heap.push { cls := .type "list_iterator", data := .fields #[.ref D1, .int 0 0] }).IsList D1 ys.toArray :=
    ⟨⟨_, Heap.get?_push_size _ rfl, rfl, rfl⟩, hl2.at fun o e => kI _ _ o e⟩
  have off : ∀ b o, s2.heap.get? b = some o → b ∉ [s2.heap.objs.size] := fun b o e q => Nat.lt_irrefl _ ((List.mem_singleton.mp q) ▸ Heap.lt_size e)
  refine ⟨_, _, rfl, hst, (fun h h' st hk => Wk.frame 0 h h' st fun b _ o e => hk b o e), (fun s' Q' E' st hq => Wk.self 0 s' Q' E' st hq), ?_⟩
  intro D2 C2 h2 hD2 hC2 hns2 hl3 hk2 _
  refine lc_names (env := lawEnv L a cdv) Wk (fun _ => by rfl) rfl (by rfl) (by rfl) (fun i us news => SidesAre us news (((pieceT (cellAt ns 4).toNat).take i).map (wordOf ns))) hst ?_ .nil ?_ hD2 hC2 hns2 hl3 hk2 ?_ ?_
  · intro b hb
    simp only [List.mem_cons, List.not_mem_nil, or_false] at hb
    rw [Heap.size_push]
    rcases hb with rfl | rfl
    · exact Nat.lt_succ_self _
    · exact Nat.lt_succ_of_lt hll
  · intro i us news hJ
    have h1 := hJ.length
    have h2 : ((pieceT (cellAt ns 4).toNat).take i).length ≤ (pieceT (cellAt ns 4).toNat).length := List.length_take_le' ..
    rw [pieceT_length] at h2
    rw [List.length_map] at h1
    omega
  · intro i us news' v s4 m4 hi hPv hJ hnews hn hmv hk4
    have hk4' : Kp s2.heap s4.heap := fun b o e => hk4 b o (off b o e) (kI _ b o e)
    obtain ⟨p, xs, rfl, hpm, hps, hxs⟩ := sides_at hsd (by simpa using hPv)
    have hxl := piece_len _ (List.mem_of_getElem? hxs)
    obtain ⟨vp, hlp, hip⟩ := list_of_side (hk4' _ _ (hn2 p hpm)) hps
    refine wpAny_tests_nil ⟨keeps_refl _, ?_⟩
    rw [if_pos rfl]
    refine wpAny_BinOp ?_
    refine wpAny_BinOp ?_
    refine wp_ints1 (k1 := (cellAt ns 3).fmod 6) ?_ ?_ ?_
    rotate_left
    · rfl
    rotate_left
    · intro s5 Q' k q
      refine wpAny_BinOp ?_
      refine at_cell (c := L + 1) (v := cellAt ns 3) ((hcell2.keeps hk4').keeps k) (k _ _ (hk4' _ _ hob2)) hs (by decide) (cellAt_get ns (k := 3) (by decide)) hz fun t tk => ?_
      refine wpAny_Constant_int ?_
      refine PyProof.Rows.mod_int (by decide) ?_
      exact q _ _
    intro D5 o5 s5 hD5 hD5' hk5 ho5 hs5
    have kp5 := Keeps.kp hk5
    obtain ⟨v5, hl5, hi5⟩ := list_of_side ho5 hs5
    refine nm (hn.keeps kp5) hmv ?_
    refine add_ints hl5 (hlp.at fun o e => kp5 _ o e) hi5 hip (by simp; omega) ?_
    intro o6 h6 e6 ho6 hs6
    have k6 : Kp s5.heap h6 := fun b o e => by rw [e6]; exact Heap.get?_push_of_some _ e
    generalize hs6' : ({ s5 with heap := h6 } : Shared) = s6
    have ho6' : s6.heap.get? s5.heap.objs.size = some o6 := by rw [← hs6']; exact ho6
    have kk6 : Keeps s4 s6 := by
      obtain ⟨hh5, tk5, e, hk⟩ := hk5
      subst e
      exact ⟨h6, tk5, hs6'.symm, fun b o e => k6 b o (hk b o e)⟩
    have kp6 := Keeps.kp kk6
    refine wp_ints1 (k1 := (cellAt ns 5).fmod 6) ?_ ?_ ?_
    rotate_left
    · rfl
    rotate_left
    · intro s7 Q' k q
      refine wpAny_BinOp ?_
      refine at_cell (c := L + 1) (v := cellAt ns 5) (((hcell2.keeps hk4').keeps kp6).keeps k) (k _ _ (kp6 _ _ (hk4' _ _ hob2))) hs (by decide) (cellAt_get ns (k := 5) (by decide)) hz fun t tk => ?_
      refine wpAny_Constant_int ?_
      refine PyProof.Rows.mod_int (by decide) ?_
      exact q _ _
    intro D7 o7 s7 hD7 hD7' hk7 ho7 hs7
    have kp7 := Keeps.kp hk7
    obtain ⟨v6, hl6, hi6⟩ := list_of_side (kp7 _ _ ho6') hs6
    obtain ⟨v7, hl7, hi7⟩ := list_of_side ho7 hs7
    refine add_ints hl6 hl7 hi6 hi7 (by simp; omega) ?_
    intro o8 h8 e8 ho8 hs8
    have k8 : Kp s7.heap h8 := fun b o e => by rw [e8]; exact Heap.get?_push_of_some _ e
    have kk8 : Keeps s4 { s7 with heap := h8 } := by
      obtain ⟨hh6, tk6, e6, hk6⟩ := kk6
      obtain ⟨hh7, tk7, e7, hk7'⟩ := hk7
      subst e6
      subst e7
      exact ⟨h8, tk7, rfl, fun b o e => k8 b o (hk7' b o (hk6 b o e))⟩
    refine ⟨kk8, [(s7.heap.objs.size, o8)], fun q hq => ?_, ?_⟩
    · rw [List.mem_singleton.mp hq]
      refine ⟨?_, ho8⟩
      exact Nat.le_of_lt (Nat.lt_of_le_of_lt hD5 (Nat.lt_trans hD5' (Nat.lt_trans (Heap.lt_size ho6') (Nat.lt_of_le_of_lt hD7 hD7'))))
    · rw [take_next hxs, List.map_append]
      exact hJ.snoc hs8
  · rintro s3 us ⟨⟨H, tk, rfl⟩, hm3, keep, news3, hnews3, hJ3⟩ hl4
    refine ⟨rfl, ?_⟩
    obtain ⟨m3, hm3⟩ := hm3
    obtain ⟨o9, ho9, hc9, n9, hd9⟩ := hl4
    have hJ4 : SidesAre us news3 (wordsT ns) := by
      rw [show ys.toArray.size = (pieceT (cellAt ns 4).toNat).length from by rw [List.size_toArray]; exact hsd.length, List.take_length] at hJ3
      exact hJ3
    have hD2' : s2.heap.objs.size ≤ D2 := by rw [hD2, Heap.size_push]; exact Nat.le_succ _
    have hDC : D2 < C2 := by rw [hC2]; exact Nat.lt_succ_self _
    have k4 : Kp s2.heap H := fun b o e => keep b o (off b o e) (kI _ b o e)
    refine wpAny_mono (x1.compStore (tk := tk) (n := Str.ofString "words") (v := .ref D2) (env := lawEnv L a cdv) k4 hm3 (Nat.le_trans hD2' (Nat.le_of_lt hDC)) ((D2, o9) :: news3) (fun p hp => ?_) rfl rfl) (fun _ s16 h16 => ⟨h16.1, fun h17 hs17 => ?_⟩) fun _ _ x => x
    · rcases List.mem_cons.mp hp with rfl | hp
      · exact ⟨ho9, hD2', Nat.ne_of_lt hDC⟩
      · exact ⟨(hnews3 p hp).1, Nat.le_of_lt (Nat.lt_of_le_of_lt hD2' (Nat.lt_trans hDC (hnews3 p hp).2)), Nat.ne_of_gt (hnews3 p hp).2⟩
    exact h D2 o9 us news3 _ ⟨hc9, n9, hd9⟩ hJ4 (h16.2 h17 hs17)
end
end Mine
end
section -- L7
namespace Mine
open PySem PySem.W PySem.Calls PyProof.Rows
set_option maxRecDepth 100000
def endT (ns : List Int) : Str := pick3 (Str.ofString "\n") (Str.ofString "\r") (Str.ofString "\r\n") ((cellAt ns 6).fmod 3)
theorem endT_ok (ns : List Int) : EndOk (endT ns).cps.toList := by
  unfold endT pick3
  split
  · unfold EndOk; decide
  · split
    · unfold EndOk; decide
    · unfold EndOk; decide
section
variable {prog : Program} {w : World} {A : Around} {E : Value → Shared → Prop} {s : Shared} {mg mb : Str → Option Value}
variable {L a : Addr} {cdv : Value} {m cm : Str → Option Value} {tabs : List (Addr × Tb)} {ob : List (Addr × Obj)} {s' : Shared} {Q : Flow → Shared → Prop}

/-- end = ['\n', '\r', '\r\n'][cells[6] % 3] -/
theorem law_4 {C : Addr} {oC : Obj} {ns : List Int} (x : LSt prog w s L a cdv m cm tabs ob s') (hm : cm (Str.ofString "cells") = some (.ref C)) (hC : (C, oC) ∈ ob) (hs : SideO oC (cellsT ns))
    (h : ∀ t s'', LSt prog w s L a cdv m (fun y => if y = Str.ofString "end" then some (.str (endT ns) t) else cm y) tabs ob s'' → Q .next s'') :
    wpAny (model prog w) A (exec (lawSt 4) (lawEnv L a cdv)) Q No s' := by
  have hz : (cellsT ns).length ≤ 1000 := by rw [cellsT_length]; decide
  refine wpAny_Assign_Name ?_ ?_
  rotate_left
  · rfl
  refine wp_pick3 ?_
  intro h1 tk1 hk1
  have x1 := x.grow (tk := tk1) hk1
  have hcell : h1.IsCell (L + 1) (some (.ref C)) := by
    have := x1.ic.cell (Str.ofString "cells") (L + 1) rfl
    rwa [hm] at this
  refine wpAny_BinOp ?_
  refine at_cell (c := L + 1) (v := cellAt ns 6) hcell (x1.ob _ hC).1 hs (by decide) (cellAt_get ns (k := 6) (by decide)) hz fun t tk => ?_
  refine wpAny_Constant_int ?_
  refine PyProof.Rows.mod_int (by decide) ?_
  have e3 : (cellAt ns 6).fmod 3 = (cellAt ns 6) % 3 := Int.fmod_eq_emod_of_nonneg _ (by decide)
  refine ⟨_, _, rfl, fun _ _ e => e, by rw [e3]; omega, by rw [e3]; omega, fun t' => ?_⟩
  refine (x1.toks _).storeC (env := lawEnv L a cdv) rfl rfl (c := L + 2) rfl fun s3 x3 => ?_
  exact h _ _ x3
end
end Mine
end
section -- L8
namespace Mine
open PySem PySem.W PySem.Calls PyProof.Rows
set_option maxRecDepth 100000

def rowOf (c : Nat) : Str := ⟨#[46, c]⟩
/-- the first table, of three counts -/
def startOf (cs : List Int) : Tb := [(rowOf 120, cs.getD 0 0), (rowOf 121, cs.getD 1 0), (rowOf 122, cs.getD 2 0)].filterMap nzF
def startP (cs : List Int) (i : Nat) : Tb := ([(rowOf 120, cs.getD 0 0), (rowOf 121, cs.getD 1 0), (rowOf 122, cs.getD 2 0)].take i).filterMap nzF

theorem neN' {a b : Nat} (h : a ≠ b) : (a : Addr) ≠ b := h
theorem nm1 {a b : Nat} (h : a ≠ b) : (a : Addr) ∉ [(b : Addr)] := by simpa using h
theorem nm2 {a b c : Nat} (h : a ≠ b) (h2 : a ≠ c) : (a : Addr) ∉ [(b : Addr), c] := by simpa using And.intro h h2
theorem zapS (N D : Nat) (h : D < N) : ZAp (N + 4) (N + 2) (N + 3) N (N + 1) [N] [N + 1, D] := by
  constructor <;> first | (refine neN' ?_; omega) | (refine nm1 ?_; omega) | (refine nm2 ?_ ?_ <;> omega)
theorem zapS_fp {N D b M : Nat} (h : D < N) (hM : M = N + 5) (hb : b ∈ [N + 4, N + 2, N + 3] ++ ([N] ++ [N + 1, D])) : b < M := by
  simp at hb; omega

theorem row_ne {a b : Nat} (h : a ≠ b) : ¬ rowOf a = rowOf b := by
  intro e
  have := congrArg (fun s : Str => s.cps.toList) e
  simp [rowOf] at this
  exact h this
theorem startP_next (cs : List Int) {i c : Nat} (hc : ([120, 121, 122] : List Nat)[i]? = some c) :
    (cs.getD i 0 ≠ 0 → startP cs (i + 1) = put (startP cs i) (rowOf c) (cs.getD i 0)) ∧ (cs.getD i 0 = 0 → startP cs (i + 1) = startP cs i) := by
  have r1 := row_ne (a := 120) (b := 121) (by decide)
  have r2 := row_ne (a := 120) (b := 122) (by decide)
  have r3 := row_ne (a := 121) (b := 122) (by decide)
  match i, hc with
  | 0, hc =>
    cases hc
    refine ⟨fun h => ?_, fun h => ?_⟩
    · simp only [startP, List.take, List.filterMap_cons, List.filterMap_nil, nzF, if_neg h]; rfl
    · simp only [startP, List.take, List.filterMap_cons, List.filterMap_nil, nzF, if_pos h]
  | 1, hc =>
    cases hc
    refine ⟨fun h => ?_, fun h => ?_⟩
    · by_cases h0 : cs.getD 0 0 = 0
      · simp only [startP, List.take, List.filterMap_cons, List.filterMap_nil, nzF, if_neg h, if_pos h0]; rfl
      · simp only [startP, List.take, List.filterMap_cons, List.filterMap_nil, nzF, if_neg h, if_neg h0]
        rw [put_fresh (by simp only [List.map_cons, List.map_nil, List.mem_singleton]; exact Ne.symm r1)]; rfl
    · simp only [startP, List.take, List.filterMap_cons, List.filterMap_nil, nzF, if_pos h]
  | 2, hc =>
    cases hc
    refine ⟨fun h => ?_, fun h => ?_⟩
    · by_cases h0 : cs.getD 0 0 = 0 <;> by_cases h1 : cs.getD 1 0 = 0 <;> simp only [startP, List.take, List.filterMap_cons, List.filterMap_nil, nzF, h, h0, h1, if_true, if_false]
      · rfl
      · rw [put_fresh (by simp only [List.map_cons, List.map_nil, List.mem_singleton]; exact Ne.symm r3)]; rfl
      · rw [put_fresh (by simp only [List.map_cons, List.map_nil, List.mem_singleton]; exact Ne.symm r2)]; rfl
      · rw [put_fresh (by simp only [List.map_cons, List.map_nil, List.mem_cons, List.not_mem_nil, or_false, not_or]; exact ⟨Ne.symm r2, Ne.symm r3⟩)]; rfl
    · simp only [startP, List.take, List.filterMap_cons, List.filterMap_nil, nzF, if_pos h]
theorem startP_all (cs : List Int) : startP cs 3 = startOf cs := rfl
theorem startP_len (cs : List Int) (i : Nat) : (startP cs i).length ≤ 3 := by
  refine Nat.le_trans (List.length_filterMap_le _ _) ?_
  exact List.length_take_le' ..

section
variable {prog : Program} {w : World} {A : Around} {E : Value → Shared → Prop} {s : Shared} {mg mb : Str → Option Value}
variable {L a : Addr} {cdv : Value} {m cm : Str → Option Value} {tabs : List (Addr × Tb)} {ob : List (Addr × Obj)} {s' : Shared} {Q : Flow → Shared → Prop}

set_option maxHeartbeats 2000000 in
/-- start = {'.' + sign: count for sign, count in zip('xyz', counts) if count} -/
theorem law_5 {C : Addr} {oC : Obj} {ns : List Int} (hh : A.handled = none) (W : Wd mg mb s.heap) (x : LSt prog w s L a cdv m cm tabs ob s') (hm : m (Str.ofString "counts") = some (.ref C)) (hC : (C, oC) ∈ ob) (hs : SideO oC (countsT ns))
    (h : ∀ D s'', LSt prog w s L a cdv m (fun y => if y = Str.ofString "start" then some (.ref D) else cm y) ((D, startOf (countsT ns)) :: tabs) ob s'' → Q .next s'') :
    wpAny (model prog w) A (exec (lawSt 5) (lawEnv L a cdv)) Q No s' := by
  refine wpAny_Assign_Name ?_ ?_
  rotate_left
  · rfl
  refine wp_DictComp (cl := []) hh (by rfl) (by decide) rfl (by decide) rfl rfl (by decide) ?_
  have W1 := W.keeps x.keep
  refine Call_ (nb W1 W.f_zip PyProof.Rows.Boot.«zip» ?_)
  refine PyProof.Rows.callWith_type1 ?_
  refine args_cons ?_
  refine Calls.Constant_str ?_
  have xt := x.toks (s'.toks + 1)
  refine args_cons ?_
  refine nm xt.ns hm ?_
  refine args_nil ?_
  obtain ⟨vs, hlc, hic⟩ := list_of_side (xt.ob _ hC).1 hs
  refine call_zipS (by decide +kernel) hlc ?_
  intro h1 g1 g2 g3 g4 g5 hs1 hk1
  refine wpAny_pyIter_zip g1 ?_
  have x1 := xt.grow (tk := s'.toks + 1) hk1
  have hN : ({ s' with toks := s'.toks + 1 } : Shared).heap.objs.size = s'.heap.objs.size := rfl
  rw [hN] at g1 g2 g3 g4 g5 hs1 ⊢
  have hCN : C < s'.heap.objs.size := list_lt hlc
  generalize hNN : s'.heap.objs.size = N at g1 g2 g3 g4 g5 hs1 hCN ⊢
  have Wk := (zipD_walks (prog := prog) (w := w) hh (Draws.strAscii (prog := prog) (w := w) (A := A.in1) hh N (Str.ofString "xyz") s'.toks) (Draws.list (prog := prog) (w := w) (A := A.in1) hh (N + 1) C (Nat.ne_of_lt (Nat.lt_succ_of_lt hCN)) vs.toArray) (zapS N C hCN)
    (by show 3 ≤ vs.length; rw [hic.length]; exact Nat.le_refl 3) (by simp) (by simp)).toU
  have hcs : ∀ (i : Nat) (v : Value), vs.toArray[i]? = some v → ∃ t : Tok, v = Value.int ((countsT ns).getD i 0) t := by
    intro i v hv
    obtain ⟨c, t, rfl, hc⟩ := hic.at i v (by simpa using hv)
    exact ⟨t, by rw [List.getD_eq_getElem?_getD, hc]; rfl⟩
  refine ⟨N + 4, _, _, _, _, _, _, startP (countsT ns), rfl, Wk, ?_, ?_, ?_, ?_, ?_⟩
  · rintro i vals ⟨x, y, _, _, rfl⟩; exact ⟨x, y, rfl⟩
  · exact ⟨g1, g2, ⟨_, _, g3⟩, g4, g5, hlc.at fun o e => hk1 _ o e⟩
  · intro b hb
    exact zapS_fp hCN hs1 hb
  · intro C' hC'
    refine ⟨rfl, ?_, fun i _ => Nat.le_trans (startP_len _ _) (by decide)⟩
    rintro i key v s₂ m₂ hi ⟨x', y', ⟨c, u, hc, rfl⟩, hy', e⟩ hn₂ hka hkb _
    obtain ⟨rfl, rfl⟩ : key = .str ⟨#[c]⟩ u ∧ v = y' := by simpa using e
    obtain ⟨t, rfl⟩ := hcs i v hy'
    have hc' : ([120, 121, 122] : List Nat)[i]? = some c := by
      have e : (Str.ofString "xyz").cps = #[120, 121, 122] := by decide
      rw [e] at hc; simpa using hc
    have hnx := startP_next (countsT ns) hc'
    refine wpAny_tests_one ?_
    refine isTrue_plain ?_
    refine nm hn₂ hkb ?_
    refine P.truthy_int ?_
    refine ⟨keeps_refl _, ?_⟩
    by_cases hz : (countsT ns).getD i 0 = 0
    · rw [show ((countsT ns).getD i 0 != 0) = false from by rw [hz]; rfl, if_neg (by decide)]
      exact hnx.2 hz
    · rw [show ((countsT ns).getD i 0 != 0) = true from bne_iff_ne.mpr hz, if_pos rfl]
      refine wpAny_BinOp ?_
      refine Calls.Constant_str ?_
      refine nm (s := { s₂ with toks := s₂.toks + 1 }) hn₂ hka ?_
      refine PyProof.Rows.add_str (fun t' tk' => ?_) ?_
      · refine ⟨keeps_tok _ _, ?_⟩
        refine nm (s := { s₂ with toks := tk' }) hn₂ hkb ⟨keeps_refl _, ?_⟩
        exact ⟨rowOf c, _, _, _, rfl, rfl, hnx.1 hz⟩
      · simp [Str.length]
        decide
  · intro D h2 tk2 hD hT hk2
    have hN1 : ∀ b o, s'.heap.get? b = some o → b ∉ [N + 4, N + 3, N, N + 1] := fun b o e => zip_wr (hNN ▸ Heap.lt_size e)
    have kk : Kp s'.heap h2 := fun b o e => hk2 b o (hN1 b o e) (hk1 b o e)
    have hDs : s'.heap.objs.size ≤ D := by
      refine Nat.le_trans ?_ hD
      show s'.heap.objs.size ≤ h1.objs.size
      rw [hs1, hNN]; exact Nat.le_add_right _ _
    have x2 := x.add (tk := tk2) W hDs hT kk
    refine x2.storeC (env := lawEnv L a cdv) rfl rfl (c := L + 3) rfl fun s3 x3 => ?_
    exact h D s3 x3
end
end Mine
end
section -- L9
namespace Mine
open PySem PySem.W PySem.Calls PyProof.Rows
set_option maxRecDepth 100000

def wN (xs : List Int) : List Nat := xs.map Int.toNat
/-- what led wants of a word -/
def WordOk (xs : List Int) : Prop := xs = (wN xs).map (fun d => ((d : Nat) : Int)) ∧ (∀ d ∈ wN xs, d < 6) ∧ wN xs ≠ [] ∧ (wN xs).length ≤ 5

section
variable (prog : Program) (w : World)
/-- an object that is a table, wherever it stands -/
def TabO (p : Addr × Obj) (T : Tb) : Prop := (∀ h : Heap, h.get? p.1 = some p.2 → Tab prog w h p.1 T) ∧ (p.1 == sysModules) = false
def TabsAre (us : List Value) (news : List (Addr × Obj)) (Ts : List Tb) : Prop :=
  ∃ l : List (Addr × Obj), us = l.map (fun p => .ref p.1) ∧ (∀ p ∈ l, p ∈ news) ∧ l.length = Ts.length ∧ ∀ (k : Nat) (p : Addr × Obj) (T : Tb), l[k]? = some p → Ts[k]? = some T → TabO prog w p T
end
section
variable {prog : Program} {w : World} {A : Around} {E : Value → Shared → Prop} {s : Shared} {mg mb : Str → Option Value}
variable {L a : Addr} {cdv : Value} {m cm : Str → Option Value} {tabs : List (Addr × Tb)} {ob : List (Addr × Obj)} {s' : Shared} {Q : Flow → Shared → Prop}

theorem TabsAre.nil {news : List (Addr × Obj)} : TabsAre prog w [] news [] := ⟨[], rfl, (fun p hp => nomatch hp), rfl, fun k p xs h => by simp at h⟩
theorem TabsAre.snoc {us : List Value} {news : List (Addr × Obj)} {Ts : List Tb} (h : TabsAre prog w us news Ts) {p : Addr × Obj} {T : Tb} (ho : TabO prog w p T) : TabsAre prog w (us ++ [.ref p.1]) ([p] ++ news) (Ts ++ [T]) := by
  obtain ⟨l, rfl, hm, hl, hk⟩ := h
  refine ⟨l ++ [p], by simp, fun q hq => ?_, by simp [hl], fun k q zs h1 h2 => ?_⟩
  · rcases List.mem_append.mp hq with hq | hq
    · exact List.mem_append_right _ (hm q hq)
    · rw [List.mem_singleton.mp hq]; exact .head _
  · by_cases hlt : k < l.length
    · rw [List.getElem?_append_left hlt] at h1
      rw [List.getElem?_append_left (hl ▸ hlt)] at h2
      exact hk k q zs h1 h2
    · rw [List.getElem?_append_right (by omega)] at h1
      rw [List.getElem?_append_right (by omega)] at h2
      have e : k - l.length = 0 := by
        have := (List.getElem?_eq_some_iff.mp h1).1
        simp at this; omega
      rw [e] at h1
      rw [← hl, e] at h2
      simp at h1 h2
      subst h1; subst h2
      exact ho
theorem TabsAre.length {us : List Value} {news : List (Addr × Obj)} {Ts : List Tb} (h : TabsAre prog w us news Ts) : us.length = Ts.length := by
  obtain ⟨l, rfl, _, hl, _⟩ := h
  simp [hl]
theorem tabO_of {h : Heap} {D : Addr} {T : Tb} (hT : Tab prog w h D T) (hS : (D == sysModules) = false) : ∃ o, h.get? D = some o ∧ TabO prog w (D, o) T := by
  obtain ⟨o, ho⟩ := hT.there
  exact ⟨o, ho, fun h' e => hT.keep fun o' e' => by rw [ho] at e'; cases e'; exact e, hS⟩

set_option maxHeartbeats 4000000 in
/-- tables = [_law_led(start, word, end) for word in words] -/
theorem law_6 {D t : Addr} {oD : Obj} {us : List Value} {ws : List (List Int)} {T : Tb} {e : Str} {te : Tok} (hh : A.handled = none) (W : Wd mg mb s.heap) (rm : Rm A 8) (x : LSt prog w s L a cdv m cm tabs ob s') (hm : m (Str.ofString "words") = some (.ref D)) (hD : (D, oD) ∈ ob)
    (ho : oD.cls = .type "list" ∧ ∃ n, oD.data = .seq us.toArray n) (hs : SidesAre us ob ws) (hws : ∀ xs ∈ ws, WordOk xs) (hwl : ws.length ≤ 100) (hst : cm (Str.ofString "start") = some (.ref t)) (ht : (t, T) ∈ tabs) (hT : Keys (RowN 2) T) (hen : cm (Str.ofString "end") = some (.str e te)) (he : EndOk e.cps.toList)
    (h : ∀ D2 o us2 news s'', (o.cls = .type "list" ∧ ∃ n, o.data = .seq (List.toArray us2) n) → TabsAre prog w us2 news (ws.map fun xs => ledT T (wN xs)) → LSt prog w s L a cdv (fun y => if y = Str.ofString "tables" then some (.ref D2) else m y) cm tabs ((D2, o) :: news ++ ob) s'' → Q .next s'') :
    wpAny (model prog w) A (exec (lawSt 6) (lawEnv L a cdv)) Q No s' := by
  obtain ⟨aP, cP, hmP, FP⟩ := W.g14
  obtain ⟨oP, doc, pm, ct, an, hoP, hdP, hcP⟩ := id FP
  have W1 := W.keeps x.keep
  have cEnd : s'.heap.IsCell (L + 2) (some (.str e te)) := by
    have := x.ic.cell (Str.ofString "end") (L + 2) rfl
    rwa [hen] at this
  have cStart : s'.heap.IsCell (L + 3) (some (.ref t)) := by
    have := x.ic.cell (Str.ofString "start") (L + 3) rfl
    rwa [hst] at this
  have hTt := x.tabs _ ht
  have hlD : s'.heap.IsList D us.toArray := ⟨oD, (x.ob _ hD).1, ho.1, ho.2⟩
  refine wp_Assign_LC (cl := [(Str.ofString "start", L + 3), (Str.ofString "end", L + 2)]) (by rfl) (by rfl) rfl (by decide) ?_
  refine nm x.ns hm ?_
  refine wpAny_pyIter_list hlD ?_
  have hll := list_lt hlD
  have hne : D ≠ s'.heap.objs.size := Nat.ne_of_lt hll
  have kI : ∀ o', Kp s'.heap (s'.heap.push o') := fun o' b o e => Heap.get?_push_of_some _ e
  have Wk := Walks.list (prog := prog) (w := w) hh s'.heap.objs.size D hne us.toArray
  have hst0 : (s'.heap.push { cls := .type "list_iterator", data := .fields #[.ref D, .int 0 0] }).IsListIter s'.heap.objs.size D 0 ∧ (s'.heap.push { cls := .type "list_iterator", data := .fields #[.ref D, .int 0 0] }).IsList D us.toArray :=
    ⟨⟨_, Heap.get?_push_size _ rfl, rfl, rfl⟩, hlD.at fun o e => kI _ _ o e⟩
  have off : ∀ b o, s'.heap.get? b = some o → b ∉ [s'.heap.objs.size] := fun b o e q => Nat.lt_irrefl _ ((List.mem_singleton.mp q) ▸ Heap.lt_size e)
  refine ⟨_, _, rfl, hst0, (fun h h' st hk => Wk.frame 0 h h' st fun b _ o e => hk b o e), (fun s' Q' E' st hq => Wk.self 0 s' Q' E' st hq), ?_⟩
  intro D2 C2 h2 hD2 hC2 hns2 hl3 hk2 _
  refine lc_names (env := lawEnv L a cdv) Wk (fun _ => by rfl) rfl (by rfl) (by rfl) (fun i us news => TabsAre prog w us news ((ws.take i).map fun xs => ledT T (wN xs))) hst0 ?_ .nil ?_ hD2 hC2 hns2 hl3 hk2 ?_ ?_
  · intro b hb
    simp only [List.mem_cons, List.not_mem_nil, or_false] at hb
    rw [Heap.size_push]
    rcases hb with rfl | rfl
    · exact Nat.lt_succ_self _
    · exact Nat.lt_succ_of_lt hll
  · intro i us news hJ
    have h1 := hJ.length
    have h2 : (ws.take i).length ≤ ws.length := List.length_take_le' ..
    rw [List.length_map] at h1
    omega
  · intro i us' news' v s4 m4 hi hPv hJ hnews hn hmv hk4
    have hk4' : Kp s'.heap s4.heap := fun b o e => hk4 b o (off b o e) (kI _ b o e)
    obtain ⟨p, xs, rfl, hpm, hps, hxs⟩ := sides_at hs (by simpa using hPv)
    obtain ⟨hx1, hx2, hx3, hx4⟩ := hws xs (List.mem_of_getElem? hxs)
    obtain ⟨vp, hlp, hip⟩ := list_of_side (hk4' _ _ (x.ob p hpm).1) hps
    refine wpAny_tests_nil ⟨keeps_refl _, ?_⟩
    rw [if_pos rfl]
    have W4 := W1.keeps hk4'
    refine Call_ (ng W4 hmP ?_)
    refine callWith_def hdP ?_
    refine args_cons ?_
    refine nc (c := L + 3) (cStart.keeps hk4') ?_
    refine args_cons ?_
    refine nm hn hmv ?_
    refine args_cons ?_
    refine nc (c := L + 2) (cEnd.keeps hk4') ?_
    refine args_nil ?_
    refine ⟨hk4' _ _ (x.keep _ _ hoP), wpAny_call ?_⟩
    refine call_led (ds := wN xs) (n := 2) ((FP.keeps x.keep).keeps hk4') W4 (rm.mono (by decide)) (hTt.1.keeps hk4') hlp (by rw [← hx1]; exact hip) hx2 he hT (by omega) hTt.2.2.2 ?_
    intro D5 h5 tk5 hD5 hS5 hk5 hT5
    have hD5' : s4.heap.objs.size ≤ D5 := by
      rcases hD5 with q | q
      · exact absurd q hx3
      · exact q
    obtain ⟨o5, ho5, hto⟩ := tabO_of hT5 hS5
    refine ⟨⟨h5, tk5, rfl, hk5⟩, [(D5, o5)], fun q hq => ?_, ?_⟩
    · rw [List.mem_singleton.mp hq]; exact ⟨hD5', ho5⟩
    · rw [take_next hxs, List.map_append]
      exact hJ.snoc hto
  · rintro s3 us3 ⟨⟨H, tk, rfl⟩, hm3, keep, news3, hnews3, hJ3⟩ hl4
    refine ⟨rfl, ?_⟩
    obtain ⟨m3, hm3⟩ := hm3
    obtain ⟨o9, ho9, hc9, n9, hd9⟩ := hl4
    have hJ4 : TabsAre prog w us3 news3 (ws.map fun xs => ledT T (wN xs)) := by
      rw [show us.toArray.size = ws.length from by rw [List.size_toArray]; exact hs.length, List.take_length] at hJ3
      exact hJ3
    have hD2' : s'.heap.objs.size ≤ D2 := by rw [hD2, Heap.size_push]; exact Nat.le_succ _
    have hDC : D2 < C2 := by rw [hC2]; exact Nat.lt_succ_self _
    have k4 : Kp s'.heap H := fun b o e => keep b o (off b o e) (kI _ b o e)
    refine wpAny_mono (x.compStore (tk := tk) (n := Str.ofString "tables") (v := .ref D2) (env := lawEnv L a cdv) k4 hm3 (Nat.le_trans hD2' (Nat.le_of_lt hDC)) ((D2, o9) :: news3) (fun p hp => ?_) rfl rfl) (fun _ s16 h16 => ⟨h16.1, fun h17 hs17 => ?_⟩) fun _ _ x => x
    · rcases List.mem_cons.mp hp with rfl | hp
      · exact ⟨ho9, hD2', Nat.ne_of_lt hDC⟩
      · exact ⟨(hnews3 p hp).1, Nat.le_of_lt (Nat.lt_of_le_of_lt hD2' (Nat.lt_trans hDC (hnews3 p hp).2)), Nat.ne_of_gt (hnews3 p hp).2⟩
    exact h D2 o9 us3 news3 _ ⟨hc9, n9, hd9⟩ hJ4 (h16.2 h17 hs17)
end
end Mine
end
section -- L10
namespace Mine
open PySem PySem.W PySem.Calls PyProof.Rows
set_option maxRecDepth 100000
section
variable {prog : Program} {w : World} {A : Around} {E : Value → Shared → Prop} {s : Shared} {mg mb : Str → Option Value}
variable {L a : Addr} {cdv : Value} {m cm : Str → Option Value} {tabs : List (Addr × Tb)} {ob : List (Addr × Obj)} {s' : Shared} {Q : Flow → Shared → Prop}

/-- x[k], x a list under a name -/
theorem at_name {env : Env} {x : Str} {px pc pos : Pos} {kd : Nat} {l : Addr} {o : Obj} {us : List Value} {k : Int} {v : Value} {m : Str → Option Value} {Q : Value → Shared → Prop} (hn : s.heap.Ns env.locals m) (hm : m x = some (.ref l)) (ho : s.heap.get? l = some o) (hs : o.cls = .type "list" ∧ ∃ n, o.data = .seq us.toArray n)
    (h0 : 0 ≤ k) (hx : us[k.toNat]? = some v) (hz : k < 1000)
    (h : ∀ tk, Q v { s with toks := tk }) (hk : env.scope.kind = .function := by rfl) (hl : env.kindOf x = some .local := by rfl) (hd : (x == ("__debug__" : Str)) = false := by decide) :
    wpAny (model prog w) A (eval (.Subscript (.Name x px) (.Constant (.int k) kd pc) pos) env) Q E s := by
  refine Subscript_ ?_
  refine nm hn hm ?_ hk hl hd
  refine wpAny_Constant_int ?_
  have hls' : ({ s with toks := s.toks + 1 } : Shared).heap.IsList l us.toArray := ⟨o, ho, hs.1, hs.2⟩
  refine tail_any (T := "list") hls'.typeIs slot_list_getitem.lookup ?_ (by with_unfolding_all rfl)
  exact wpAny_getItem_list (x := v) hls' h0 (by omega) (by simpa using hx) (h _)

/-- size = len(words[0]) -/
theorem law_7 {D : Addr} {oD : Obj} {us : List Value} {p : Addr × Obj} {xs : List Int} (W : Wd mg mb s.heap) (x : LSt prog w s L a cdv m cm tabs ob s') (hm : m (Str.ofString "words") = some (.ref D)) (hD : (D, oD) ∈ ob)
    (ho : oD.cls = .type "list" ∧ ∃ n, oD.data = .seq us.toArray n) (hu : us[0]? = some (.ref p.1)) (hp : p ∈ ob) (hs : SideO p.2 xs) (hz : xs.length ≤ 1000)
    (h : ∀ t s'', LSt prog w s L a cdv m (fun y => if y = Str.ofString "size" then some (.int (xs.length : Nat) t) else cm y) tabs ob s'' → Q .next s'') :
    wpAny (model prog w) A (exec (lawSt 7) (lawEnv L a cdv)) Q No s' := by
  have W1 := W.keeps x.keep
  obtain ⟨vs, hlv, hiv⟩ := list_of_side (x.ob _ hp).1 hs
  refine wpAny_Assign_Name ?_ ?_
  rotate_left
  · rfl
  refine Call_ (nb W1 W.f_len PyProof.Rows.Boot.«len» ?_)
  refine PyProof.Rows.callWith_builtin1 ?_
  refine args_cons ?_
  refine at_name x.ns hm (x.ob _ hD).1 ho (by decide) hu (by decide) fun tk => ?_
  refine args_nil ?_
  have hlv' : ({ s' with toks := tk } : Shared).heap.IsList p.1 vs.toArray := hlv
  have hsz : vs.toArray.size = xs.length := by rw [List.size_toArray, hiv.length]
  refine len_list hlv' (by rw [hsz]; omega) ?_
  rw [hsz]
  have x1 := (x.toks tk).toks (tk + 1)
  refine DSt.storeC (env := lawEnv L a cdv) (x.toks _) rfl rfl (c := L + 4) rfl fun s3 x3 => ?_
  exact h _ _ x3
end
end Mine
end
section -- L11
namespace Mine
open PySem PySem.W PySem.Calls PyProof.Rows
set_option maxRecDepth 100000
section
variable {prog : Program} {w : World} {A : Around} {E : Value → Shared → Prop} {s : Shared} {mg mb : Str → Option Value}
variable {L a : Addr} {cdv : Value} {m cm : Str → Option Value} {tabs : List (Addr × Tb)} {ob : List (Addr × Obj)} {s' : Shared} {Q : Flow → Shared → Prop}

theorem swap_ints {xs : List Int} (h : KBa.In xs) : KBw.bInts (xs.map fun n => n.toNat.toUInt8).reverse.toArray = xs.reverse := by
  have h1 := KBa.ints_make h
  rw [KBw.ints_list, List.map_reverse]
  rw [show byteArr xs = (xs.map fun n => n.toNat.toUInt8).toArray from rfl, KBw.ints_list] at h1
  rw [h1]

set_option maxHeartbeats 2000000 in
/-- turned = _byteswap(bytes(words[0]), size) -/
theorem law_8 {D : Addr} {oD : Obj} {us : List Value} {p : Addr × Obj} {xs : List Int} {ts : Tok} (hh : A.handled = none) (W : Wd mg mb s.heap) (rm : Rm A 3) (x : LSt prog w s L a cdv m cm tabs ob s') (hm : m (Str.ofString "words") = some (.ref D)) (hD : (D, oD) ∈ ob)
    (ho : oD.cls = .type "list" ∧ ∃ n, oD.data = .seq us.toArray n) (hu : us[0]? = some (.ref p.1)) (hp : p ∈ ob) (hs : SideO p.2 xs) (hz : xs.length = 4 ∨ xs.length = 5) (hr : KBa.In xs) (hsz : cm (Str.ofString "size") = some (.int (xs.length : Nat) ts))
    (h : ∀ b t s'', KBw.bInts b = xs.reverse → LSt prog w s L a cdv (fun y => if y = Str.ofString "turned" then some (.bytes b t) else m y) cm tabs ob s'' → Q .next s'') :
    wpS (model prog w) A (exec (lawSt 8) (lawEnv L a cdv)) Q No s' := by
  have W1 := W.keeps x.keep
  obtain ⟨aP, cP, hmP, FP⟩ := W.g9
  obtain ⟨oP, doc, pm, ct, an, hoP, hdP, hcP⟩ := id FP
  obtain ⟨vs, hlv, hiv⟩ := list_of_side (x.ob _ hp).1 hs
  refine wpS_Assign_Name ?_ ?_
  rotate_left
  · rfl
  refine wpS_Call ?_ ?_
  rotate_left
  · rfl
  refine ng W1 hmP ?_
  refine wpS_callWith_def hdP ?_
  refine args_cons ?_
  refine Call_ (nb W1 W.f_bytes PyProof.Rows.Boot.«bytes» ?_)
  refine PyProof.Rows.callWith_type1 ?_
  refine args_cons ?_
  refine at_name x.ns hm (x.ob _ hD).1 ho (by decide) hu (by decide) fun tk => ?_
  refine args_nil ?_
  have hlv' : ({ s' with toks := tk } : Shared).heap.IsList p.1 vs.toArray := hlv
  have hsl : (100000 : Nat) ≤ sizeLine := by decide
  refine call_bytes_ints hlv' hiv hr (by rw [hiv.length]; omega) hh fun h1 t1 k1 hk1 => ?_
  have x1 := (x.toks tk).grow (tk := k1) hk1
  generalize hs1 : ({ s' with heap := h1, toks := k1 } : Shared) = s1 at x1 ⊢
  have cSize : s1.heap.IsCell (L + 4) (some (.int (xs.length : Nat) ts)) := by
    have := x1.ic.cell (Str.ofString "size") (L + 4) rfl
    rwa [hsz] at this
  refine args_cons ?_
  refine nc (c := L + 4) cSize ?_
  refine args_nil ?_
  refine ⟨x1.keep _ _ hoP, wpS_call ?_⟩
  have hll : (xs.map fun n => n.toNat.toUInt8).length = xs.length := by simp
  rw [show ((xs.length : Nat) : Int) = (((xs.map fun n => n.toNat.toUInt8).length : Nat) : Int) from by rw [hll]]
  refine call_swap (l := xs.map fun n => n.toNat.toUInt8) (FP.keeps x1.keep) (W.keeps x1.keep) (rm.mono (by decide)) (by rw [hll]; exact hz) ?_
  intro t2 h2 tk2 hk2
  have x2 := x1.grow (tk := tk2) hk2
  refine x2.store (env := lawEnv L a cdv) rfl rfl fun s3 x3 => ?_
  exact h _ _ _ (swap_ints hr) x3
end
end Mine
end
section -- L12
namespace Mine
open PySem PySem.W PySem.Calls PyProof.Rows
set_option maxRecDepth 100000
section
variable {prog : Program} {w : World} {A : Around} {E : Value → Shared → Prop} {s : Shared} {mg mb : Str → Option Value}
variable {L a : Addr} {cdv : Value} {m cm : Str → Option Value} {tabs : List (Addr × Tb)} {ob : List (Addr × Obj)} {s' : Shared} {Q : Flow → Shared → Prop}

theorem bInts_size {b : Array UInt8} {xs : List Int} (h : KBw.bInts b = xs) : b.size = xs.length := by rw [← h, KBw.ints_length]

set_option maxHeartbeats 2000000 in
/-- if not isinstance(turned, bytes) or list(turned) != words[0][::-1]: return False -/
theorem law_9 {D : Addr} {oD : Obj} {us : List Value} {p : Addr × Obj} {xs : List Int} {b : Array UInt8} {tb : Tok} (hh : A.handled = none) (W : Wd mg mb s.heap) (hu' : A.units < 5000) (x : LSt prog w s L a cdv m cm tabs ob s') (hm : m (Str.ofString "words") = some (.ref D)) (hD : (D, oD) ∈ ob)
    (ho : oD.cls = .type "list" ∧ ∃ n, oD.data = .seq us.toArray n) (hu : us[0]? = some (.ref p.1)) (hp : p ∈ ob) (hs : SideO p.2 xs) (hz : xs.length ≤ 1000) (htu : m (Str.ofString "turned") = some (.bytes b tb)) (hb : KBw.bInts b = xs.reverse)
    (h : ∀ s'', LSt prog w s L a cdv m cm tabs ob s'' → Q .next s'') :
    wpAny (model prog w) A (exec (lawSt 9) (lawEnv L a cdv)) Q No s' := by
  have W1 := W.keeps x.keep
  have hun : A.units < cLine := Nat.lt_of_lt_of_le hu' (by decide)
  refine wpAny_If ?_
  refine isTrue_or ?_
  refine isTrue_not ?_
  refine isTrue_plain ?_
  refine Call_ (nb W1 W.f_isinstance PyProof.Rows.Boot.«isinstance» ?_)
  refine PyProof.Rows.callWith_builtin1 ?_
  refine args_cons ?_
  refine nm x.ns htu ?_
  refine args_cons ?_
  refine nb W1 W.f_bytes PyProof.Rows.Boot.«bytes» ?_
  refine args_nil ?_
  refine isi_bytes ?_
  refine wpAny_truthy_bool ?_
  rw [if_neg (by decide)]
  refine isTrue_or ?_
  refine wpAny_isTrue_Compare1 ?_
  refine Call_ (nb W1 W.f_list PyProof.Rows.Boot.«list» ?_)
  refine PyProof.Rows.callWith_type1 ?_
  refine args_cons ?_
  refine nm x.ns htu ?_
  refine args_nil ?_
  have hbs := bInts_size hb
  refine call_listBytes hh (by rw [hbs, List.length_reverse]; omega) ?_
  intro D1 vs h1 tk1 hD1 hk1 hl1 hi1
  have x1 := x.grow (tk := tk1) hk1
  generalize hs1 : ({ s' with heap := h1, toks := tk1 } : Shared) = s1 at x1 ⊢
  have hl1' : s1.heap.IsList D1 vs.toArray := by rw [← hs1]; exact hl1
  obtain ⟨vp, hlp, hip⟩ := list_of_side (x1.ob _ hp).1 hs
  refine wp_rev ?_
  refine at_name x1.ns hm (x1.ob _ hD).1 ho (by decide) hu (by decide) fun tk => ?_
  refine ⟨p.1, vp.toArray, rfl, hlp, ?_, ?_⟩
  · have := hip.length
    have hsl : (100000 : Nat) ≤ sizeLine := by decide
    simp; omega
  intro D2 h2 tk2 hD2 hz2 hk2 ho2
  have x2 := (x1.toks tk).grow (tk := tk2) hk2
  have hk2' : Kp s1.heap h2 := hk2
  generalize hs2 : ({ ({ s1 with toks := tk } : Shared) with heap := h2, toks := tk2 } : Shared) = s2 at x2 ⊢
  have hh2 : s2.heap = h2 := by rw [← hs2]
  have hla : s2.heap.IsList D1 vs.toArray := by rw [hh2]; exact hl1'.at fun o e => hk2' _ _ e
  have hlb : s2.heap.IsList D2 vp.reverse.toArray := by rw [hh2]; exact ⟨_, ho2, rfl, 0, by simp⟩
  refine ne_ints hla hlb hi1 (by rw [hb]; exact hip.reverse) hun ?_
  refine wpAny_truthy_bool ?_
  rw [if_neg (by decide)]
  refine isTrue_or_nil ?_
  rw [if_neg (by decide)]
  refine wpAny_execs_nil ?_
  exact h _ x2

/-- the loop of a list comprehension over bytes, each turn an int -/
theorem bytes_src {env : Env} {elt iter : PySem.Expr} {x : Str} {px : Pos} {scope : Scope} {cl : List (Str × Addr)} {pos : Pos} {b : Array UInt8} {tb : Tok} {ns : List Int} {f : Int → Int} {RR : Addr → Addr → Result → Shared → Prop} (hh : A.handled = none)
    (hb : KBw.bInts b = ns) (hz : ns.length ≤ 100000) (hcell : ∀ y ∈ scope.names, y.2 ≠ .cell) (hkind : scope.kind = .function) (hx : scope.names.lookup x = some .local)
    (step : ∀ (C : Addr) (i : Nat) (c : Int) (t : Tok) (s₂ : Shared) m₂, ns[i]? = some c → s₂.heap.Ns C m₂ → m₂ x = some (.int c t) → Kp s.heap s₂.heap → wpAny (model prog w) A (eval elt (compEnvC scope cl C env)) (fun y s₄ => Keeps s₂ s₄ ∧ ∃ t', y = .int (f c) t') No s₂)
    (hRR : ∀ D C h' tk ys, s.heap.objs.size ≤ D → C = D + 1 → (∃ m, h'.Ns C m) → h'.IsList D ys.toArray → IntsAre ys (ns.map f) → Kp s.heap h' → RR D C (.ok .next) { s with heap := h', toks := tk }) :
    wpAny (model prog w) A (pyIter (.bytes b tb)) (fun it s₂ => ∃ I, ∃ St : Heap → Prop, it = .ref I ∧ St s₂.heap ∧ (∀ h h', St h → Kp h h' → St h') ∧
      (∀ (s' : Shared) Q' E', St s'.heap → Q' (.ref I) s' → wpAny (model prog w) A (pyIter (.ref I)) Q' E' s') ∧
      (∀ D C h', D = s₂.heap.objs.size → C = D + 1 → h'.Ns C (fun _ => none) → h'.IsList D #[] → Kp s₂.heap h' → (∀ n c, (n, c) ∈ cellsFrom (C + 1) scope.names [] → h'.IsCell c none ∧ C < c) →
        codeAny (model prog w) A (.compLoop (.ListComp elt [⟨.Name x px, iter, [], 0⟩] scope pos) 0 (.ref I) (.ref D) (compEnvC scope (cellsFrom (C + 1) scope.names cl) C env))
          (RR D C) { s₂ with heap := h' })) E s := by
  refine KBw.pyIter_bytes ?_
  have kI : ∀ o', Kp s.heap (s.heap.push o') := fun o' b o e => Heap.get?_push_of_some _ e
  have W := KBw.walks (prog := prog) (w := w) hh s.heap.objs.size b tb
  have hst : KBw.IsBytesIter (s.heap.push { cls := .type "bytes_iterator", data := .fields #[.bytes b tb, .int 0 0] }) s.heap.objs.size b tb 0 := ⟨_, Heap.get?_push_size _ rfl, rfl, rfl⟩
  have off : ∀ b o, s.heap.get? b = some o → b ∉ [s.heap.objs.size] := fun b o e q => Nat.lt_irrefl _ ((List.mem_singleton.mp q) ▸ Heap.lt_size e)
  refine ⟨_, _, rfl, hst, (fun h h' st hk => W.frame 0 h h' st fun b _ o e => hk b o e), (fun s' Q' E' st hq => W.self 0 s' Q' E' st hq), fun D C h' hD hC hns hl' hk _ => ?_⟩
  rw [cells_none _ _ hcell]
  refine lc_names (env := env) (cenv := compEnvC scope cl C env) W (fun _ => by rfl) rfl (lookup_relabel_local hx) (by simp [compEnvC, relabel, hkind]) (fun i ys _ => IntsAre ys ((ns.take i).map f)) hst ?_ .nil ?_ hD hC hns hl' hk ?_ ?_
  · intro b hb
    simp only [List.mem_cons, List.not_mem_nil, or_false] at hb
    rw [Heap.size_push, hb]
    exact Nat.lt_succ_self _
  · intro i ys _ hJ
    have h1 := hJ.length
    have h2 : (ns.take i).length ≤ ns.length := by simp; omega
    simp only [List.length_map] at h1
    omega
  · rintro i ys news v s₂ m₂ hi ⟨c, u, hc, rfl⟩ hJ _ hn hm hk2
    have hc' : ns[i]? = some (c.toNat : Int) := by rw [← hb]; exact KBw.ints_get hc
    refine wpAny_tests_nil ⟨keeps_refl _, ?_⟩
    rw [if_pos rfl]
    refine wpAny_mono (step C i _ u s₂ m₂ hc' hn hm fun b o e => hk2 b o (off b o e) (kI _ _ _ e)) (fun y s₄ h₄ => ?_) fun _ _ x => x
    obtain ⟨hk4, t', rfl⟩ := h₄
    refine ⟨hk4, [], (fun p hp => nomatch hp), ?_⟩
    rw [take_next hc', List.map_append]
    exact hJ.append (.cons _ _ .nil)
  · rintro s' ys ⟨⟨H, tk, rfl⟩, hm, keep, news, hnews, hJ⟩ hl2
    refine hRR D C H tk ys ?_ hC hm hl2 ?_ fun b o e => keep b o (off b o e) (kI _ b o e)
    · rw [hD, Heap.size_push]; exact Nat.le_succ _
    · rw [bInts_size hb, List.take_length] at hJ
      exact hJ
end
end Mine
end
section -- L13
namespace Mine
open PySem PySem.W PySem.Calls PyProof.Rows
set_option maxRecDepth 100000

def homeW (xs : List Int) : List Int := xs.reverse.map fun d => (d + 3).fmod 6

section
variable {prog : Program} {w : World} {A : Around} {E : Value → Shared → Prop} {s : Shared} {mg mb : Str → Option Value}
variable {L a : Addr} {cdv : Value} {m cm : Str → Option Value} {tabs : List (Addr × Tb)} {ob : List (Addr × Obj)} {s' : Shared} {Q : Flow → Shared → Prop}

theorem tabs_at {us : List Value} {news : List (Addr × Obj)} {Ts : List Tb} (h : TabsAre prog w us news Ts) {i : Nat} {T : Tb} (hT : Ts[i]? = some T) : ∃ p, us[i]? = some (.ref p.1) ∧ p ∈ news ∧ TabO prog w p T := by
  obtain ⟨l, rfl, hm, hl, hk⟩ := h
  have hlt : i < Ts.length := (List.getElem?_eq_some_iff.mp hT).1
  obtain ⟨p, hp⟩ : ∃ p, l[i]? = some p := ⟨_, List.getElem?_eq_getElem (hl ▸ hlt)⟩
  exact ⟨p, by rw [List.getElem?_map, hp]; rfl, hm p (List.mem_of_getElem? hp), hk i p T hp hT⟩

set_option maxHeartbeats 2000000 in
/-- home = _law_led(tables[0], [(deed + 3) % 6 for deed in turned], end) -/
theorem law_10 {D : Addr} {oD : Obj} {us : List Value} {p : Addr × Obj} {xs : List Int} {b : Array UInt8} {tb te : Tok} {T : Tb} {n : Nat} {e : Str} (hh : A.handled = none) (W : Wd mg mb s.heap) (rm : Rm A 8) (x : LSt prog w s L a cdv m cm tabs ob s') (hm : m (Str.ofString "tables") = some (.ref D)) (hD : (D, oD) ∈ ob)
    (ho : oD.cls = .type "list" ∧ ∃ n, oD.data = .seq us.toArray n) (hu : us[0]? = some (.ref p.1)) (hp : p ∈ ob) (hT : TabO prog w p T) (hK : Keys (RowN n) T) (hn : n ≤ 40) (htu : m (Str.ofString "turned") = some (.bytes b tb)) (hb : KBw.bInts b = xs.reverse) (hw : WordOk (homeW xs)) (hxz : xs.length ≤ 1000)
    (hen : cm (Str.ofString "end") = some (.str e te)) (he : EndOk e.cps.toList)
    (h : ∀ H s'', LSt prog w s L a cdv (fun y => if y = Str.ofString "home" then some (.ref H) else m y) cm ((H, ledT T (wN (homeW xs))) :: tabs) ob s'' → Q .next s'') :
    wpAny (model prog w) A (exec (lawSt 10) (lawEnv L a cdv)) Q No s' := by
  obtain ⟨aP, cP, hmP, FP⟩ := W.g14
  obtain ⟨oP, doc, pm, ct, an, hoP, hdP, hcP⟩ := id FP
  have W1 := W.keeps x.keep
  obtain ⟨hw1, hw2, hw3, hw4⟩ := hw
  refine wpAny_Assign_Name ?_ ?_
  rotate_left
  · rfl
  refine Call_ (ng W1 hmP ?_)
  refine callWith_def hdP ?_
  refine args_cons ?_
  refine at_name x.ns hm (x.ob _ hD).1 ho (by decide) hu (by decide) fun tk => ?_
  have xt := x.toks tk
  generalize hst : ({ s' with toks := tk } : Shared) = st at xt ⊢
  refine args_cons ?_
  refine wp_LC (cl := []) (by rfl) rfl (by decide) ?_
  refine nm xt.ns htu ?_
  refine bytes_src (f := fun d => (d + 3).fmod 6) hh hb (by simp; omega) (by decide) rfl rfl ?_ ?_
  · intro C4 j d td s4 m4 hj hn4 hm4 hk4
    refine wpAny_BinOp ?_
    refine wpAny_BinOp ?_
    refine nm hn4 hm4 ?_
    refine wpAny_Constant_int ?_
    refine PyProof.Rows.add_int ?_
    refine wpAny_Constant_int ?_
    refine PyProof.Rows.mod_int (by decide) ?_
    exact ⟨keeps_tok _ _, _, rfl⟩
  intro D4 C4 h4 tk4 us4 hD4 hC4 hns4 hl4 hi4 hk4
  refine ⟨rfl, hns4, fun h5 hs5 => ?_⟩
  have hDC4 : D4 ≠ C4 := by rw [hC4]; exact Nat.ne_of_lt (Nat.lt_succ_self _)
  have hk5 : Kp st.heap h5 := fun b o e => hs5.extBut b o (Nat.ne_of_lt (Nat.lt_of_lt_of_le (Heap.lt_size e) (by rw [hC4]; exact Nat.le_succ_of_le hD4))) (hk4 b o e)
  have hl5 : h5.IsList D4 us4.toArray := hl4.extBut hs5.extBut hDC4
  have x5 := xt.grow (tk := tk4) hk5
  dsimp only at x5 ⊢
  generalize hs5' : ({ heap := h5, gens := st.gens, drawn := st.drawn, toks := tk4, os := st.os } : Shared) = s5 at x5 ⊢
  have hl5' : s5.heap.IsList D4 us4.toArray := by rw [← hs5']; exact hl5
  have cEnd : s5.heap.IsCell (L + 2) (some (.str e te)) := by
    have := x5.ic.cell (Str.ofString "end") (L + 2) rfl
    rwa [hen] at this
  refine args_cons ?_
  refine nc (c := L + 2) cEnd ?_
  refine args_nil ?_
  refine ⟨x5.keep _ _ hoP, wpAny_call ?_⟩
  refine call_led (ds := wN (homeW xs)) (n := n) (FP.keeps x5.keep) (W.keeps x5.keep) (rm.mono (by decide)) (hT.1 _ (x5.ob _ hp).1) hl5' (by rw [← hw1]; exact hi4) hw2 he hK (by omega) hT.2 ?_
  intro D6 h6 tk6 hD6 hS6 hk6 hT6
  have hD6' : s5.heap.objs.size ≤ D6 := by
    rcases hD6 with q | q
    · exact absurd q hw3
    · exact q
  have x6 := x5.add (tk := tk6) W hD6' hT6 hk6
  refine x6.store (env := lawEnv L a cdv) rfl rfl fun s7 x7 => ?_
  exact h _ _ x7
end
end Mine
end
section -- L14
namespace Mine
open PySem PySem.W PySem.Calls PyProof.Rows
set_option maxRecDepth 100000

/-- k dots ahead -/
def dotsN (k : Nat) (r : Str) : Str := ⟨(List.replicate k 46 ++ r.cps.toList).toArray⟩
def shiftF (k : Nat) (p : Str × Int) : Option (Str × Int) := some (dotsN k p.1, p.2)
theorem dotsN_inj {k : Nat} {a b : Str} (h : dotsN k a = dotsN k b) : a = b := by
  have h1 := congrArg (fun s : Str => s.cps.toList) h
  simp only [dotsN, List.append_cancel_left_eq] at h1
  obtain ⟨a⟩ := a; obtain ⟨b⟩ := b
  simpa using Array.toList_inj.mp h1
theorem apart_shift (T : Tb) (k : Nat) : Apart T (shiftF k) := by
  intro p _ q _ p' q' hp hq e
  unfold shiftF at hp hq
  cases hp; cases hq
  exact dotsN_inj e
theorem dots_mul {n : Nat} (h : n = 4 ∨ n = 5) : MulOk (Str.ofString ".") (2 * (n : Int)) ∧ Txt.mul (Str.ofString ".") (2 * (n : Int)) = ⟨(List.replicate (2 * n) 46).toArray⟩ := by
  rcases h with rfl | rfl
  · exact ⟨⟨by decide, fun _ _ => by decide +kernel, fun _ _ => by decide +kernel⟩, by decide +kernel⟩
  · exact ⟨⟨by decide, fun _ _ => by decide +kernel, fun _ _ => by decide +kernel⟩, by decide +kernel⟩
theorem dots_add (k : Nat) (r : Str) : (⟨(List.replicate k 46).toArray⟩ : Str) ++ r = dotsN k r := by
  show (⟨(List.replicate k 46).toArray ++ r.cps⟩ : Str) = _
  unfold dotsN
  congr 1
  apply Array.toList_inj.mp
  simp

section
variable {prog : Program} {w : World} {A : Around} {E : Value → Shared → Prop} {s : Shared} {mg mb : Str → Option Value}
variable {L a : Addr} {cdv : Value} {m cm : Str → Option Value} {tabs : List (Addr × Tb)} {ob : List (Addr × Obj)} {s' : Shared} {Q : Flow → Shared → Prop}

set_option maxHeartbeats 4000000 in
/-- if tables[0] != tables[1] or home != {..}: return False -/
theorem law_11 {D t H : Addr} {oD : Obj} {us : List Value} {p q : Addr × Obj} {n : Nat} {ts : Tok} {T U V S : Tb} {N : Nat} (hh : A.handled = none) (W : Wd mg mb s.heap) (hu' : A.units < 5000) (x : LSt prog w s L a cdv m cm tabs ob s') (hm : m (Str.ofString "tables") = some (.ref D)) (hD : (D, oD) ∈ ob)
    (ho : oD.cls = .type "list" ∧ ∃ n, oD.data = .seq us.toArray n) (hu0 : us[0]? = some (.ref p.1)) (hu1 : us[1]? = some (.ref q.1)) (hp : p ∈ ob) (hq : q ∈ ob) (hT : TabO prog w p T) (hU : TabO prog w q U) (hTU : SameT T U)
    (hmH : m (Str.ofString "home") = some (.ref H)) (hH : (H, V) ∈ tabs) (hst : cm (Str.ofString "start") = some (.ref t)) (ht : (t, S) ∈ tabs) (hSk : Keys (RowN N) S) (hN : N ≤ 50) (hSz : S.length ≤ 1000) (hsz : cm (Str.ofString "size") = some (.int (n : Nat) ts)) (hn : n = 4 ∨ n = 5) (hVS : SameT V (S.filterMap (shiftF (2 * n))))
    (h : ∀ s'', LSt prog w s L a cdv m cm tabs ob s'' → Q .next s'') :
    wpAny (model prog w) A (exec (lawSt 11) (lawEnv L a cdv)) Q No s' := by
  have hun : A.units < cLine := Nat.lt_of_lt_of_le hu' (by decide)
  obtain ⟨hmul, hdots⟩ := dots_mul hn
  refine wpAny_If ?_
  refine isTrue_or ?_
  refine wpAny_isTrue_Compare1 ?_
  refine at_name x.ns hm (x.ob _ hD).1 ho (by decide) hu0 (by decide) fun tk => ?_
  refine at_name (x.toks tk).ns hm (x.ob _ hD).1 ho (by decide) hu1 (by decide) fun tk2 => ?_
  have x1 := (x.toks tk).toks tk2
  dsimp only at x1 ⊢
  generalize hs1 : ({ heap := s'.heap, gens := s'.gens, drawn := s'.drawn, toks := tk2, os := s'.os } : Shared) = s1 at x1 ⊢
  refine ne_tabs hT.2 hU.2 (hT.1 _ (x1.ob _ hp).1) (hU.1 _ (x1.ob _ hq).1) hun hTU ?_
  refine wpAny_truthy_bool ?_
  rw [if_neg (by decide)]
  refine isTrue_or ?_
  refine wpAny_isTrue_Compare1 ?_
  refine nm x1.ns hmH ?_
  have hSt := x1.tabs _ ht
  have cStart : s1.heap.IsCell (L + 3) (some (.ref t)) := by
    have := x1.ic.cell (Str.ofString "start") (L + 3) rfl
    rwa [hst] at this
  have cSize : s1.heap.IsCell (L + 4) (some (.int (n : Nat) ts)) := by
    have := x1.ic.cell (Str.ofString "size") (L + 4) rfl
    rwa [hsz] at this
  refine wp_DictComp_items (d := t) (T := S) (g := shiftF (2 * n)) (cl := [(Str.ofString "size", L + 4)]) hh hSt.2.2.2 hSt.1 (by omega) (apart_shift _ _) (by rfl) (by decide) rfl (by decide) rfl rfl (by decide) rfl rfl (fun Q' q => nc (c := L + 3) cStart q) ?_ ?_
  · intro C p t1 t2 s₃ m₃ hp hn₃ hka hkb hkp
    refine wpAny_tests_nil ⟨keeps_refl _, ?_⟩
    rw [if_pos rfl]
    refine wpAny_BinOp ?_
    refine wpAny_BinOp ?_
    refine Calls.Constant_str ?_
    refine wpAny_BinOp ?_
    refine wpAny_Constant_int ?_
    refine nc (c := L + 4) (cSize.keeps hkp) ?_
    refine PyProof.Rows.mul_int ?_ (IntMulOk.of_left (intBits_le (by decide)))
    refine SB.mul hmul fun t' k => ?_
    rw [hdots]
    refine nm (s := { s₃ with toks := k }) hn₃ hka ?_
    refine PyProof.Rows.add_str (fun t5 tk5 => ?_) ?_
    · refine ⟨keeps_tok _ _, ?_⟩
      refine nm (s := { s₃ with toks := tk5 }) hn₃ hkb ⟨keeps_refl _, ?_⟩
      exact ⟨(dotsN (2 * n) p.1, p.2), t5, _, rfl, by rw [dots_add], rfl⟩
    · have := (hSk p hp).2
      have hsl : (100000 : Nat) ≤ sizeLine := by decide
      simp [Str.length] at this ⊢
      omega
  · intro D5 h5 tk5 hD5 hk5 hT5
    have x5 := x1.grow (tk := tk5) hk5
    have W5 := W.keeps x1.keep
    generalize hs5 : ({ s1 with heap := h5, toks := tk5 } : Shared) = s5 at x5 ⊢
    have hT5' : Tab prog w s5.heap D5 (S.filterMap (shiftF (2 * n))) := by rw [← hs5]; exact hT5
    have hHt := x5.tabs _ hH
    refine ne_tabs hHt.2.2.2 (notSys W5 hD5) hHt.1 hT5' hun hVS ?_
    refine wpAny_truthy_bool ?_
    rw [if_neg (by decide)]
    refine isTrue_or_nil ?_
    rw [if_neg (by decide)]
    refine wpAny_execs_nil ?_
    exact h _ x5
end
end Mine
end
section -- L15
namespace Mine
open PySem PySem.W PySem.Calls PyProof.Rows
set_option maxRecDepth 100000
section
variable {prog : Program} {w : World} {A : Around} {E : Value → Shared → Prop} {s : Shared} {mg mb : Str → Option Value}
variable {L a : Addr} {cdv : Value} {m cm : Str → Option Value} {tabs : List (Addr × Tb)} {ob : List (Addr × Obj)} {s' : Shared} {Q : Flow → Shared → Prop}

set_option maxHeartbeats 4000000 in
/-- return _law_read(tables[0], 10 ** 6) == _law_told(counts, words[0], 10 ** 6) -/
theorem law_12 {D Dw C : Addr} {oD oDw oC : Obj} {us usw : List Value} {p q : Addr × Obj} {cs : List Int} {ds : List Nat} {T : Tb} {N : Nat} (hh : A.handled = none) (W : Wd mg mb s.heap) (hu' : A.units < 5000) (rm : Rm A 4) (x : LSt prog w s L a cdv m cm tabs ob s')
    (hm : m (Str.ofString "tables") = some (.ref D)) (hD : (D, oD) ∈ ob) (ho : oD.cls = .type "list" ∧ ∃ n, oD.data = .seq us.toArray n) (hu0 : us[0]? = some (.ref p.1)) (hp : p ∈ ob) (hT : TabO prog w p T) (hK : Keys (RowN N) T) (hN : N ≤ 100) (hcn : ∀ p ∈ T, p.2.natAbs < 2 ^ 64)
    (hmw : m (Str.ofString "words") = some (.ref Dw)) (hDw : (Dw, oDw) ∈ ob) (how : oDw.cls = .type "list" ∧ ∃ n, oDw.data = .seq usw.toArray n) (huw : usw[0]? = some (.ref q.1)) (hq : q ∈ ob) (hqs : SideO q.2 (ds.map fun d => ((d : Nat) : Int)))
    (hmc : m (Str.ofString "counts") = some (.ref C)) (hC : (C, oC) ∈ ob) (hCs : SideO oC cs) (hcz : cs.length ≤ 1000)
    (hlaw : toldT 1000000 cs ds = [readT T 1000000 120, readT T 1000000 121, readT T 1000000 122])
    (h : ∀ m' s'', LSt prog w s L a cdv m' cm tabs ob s'' → Q (.ret (.bool true)) s'') :
    wpAny (model prog w) A (exec (lawSt 12) (lawEnv L a cdv)) Q No s' := by
  have hun : A.units < cLine := Nat.lt_of_lt_of_le hu' (by decide)
  obtain ⟨aR, cR, hmR, FR⟩ := W.g15
  obtain ⟨oR, docR, pmR, ctR, anR, hoR, hdR, hcR⟩ := id FR
  obtain ⟨aP, cP, hmP, FP⟩ := W.g16
  obtain ⟨oP, doc, pm, ct, an, hoP, hdP, hcP⟩ := id FP
  refine wpAny_Return_some ?_
  refine wpAny_Compare1 ?_
  -- read
  refine Call_ (ng (W.keeps x.keep) hmR ?_)
  refine callWith_def hdR ?_
  refine args_cons ?_
  refine at_name x.ns hm (x.ob _ hD).1 ho (by decide) hu0 (by decide) fun tk => ?_
  refine args_cons ?_
  refine wpAny_BinOp ?_
  refine wpAny_Constant_int ?_
  refine wpAny_Constant_int ?_
  refine pow_int_small (by decide) (by decide) (by decide) ?_
  refine args_nil ?_
  refine ⟨x.keep _ _ hoR, wpAny_call ?_⟩
  refine call_read (n := N) (FR.keeps x.keep) (W.keeps x.keep) (rm.mono (by decide)) (hT.1 _ (x.ob _ hp).1) hK hcn hN (by decide) hT.2 ?_
  intro D2 vs h2 tk2 hD2 hk2 hl2 hi2
  obtain ⟨o2, ho2, hs2⟩ := sideO_of hl2 hi2
  have x2 := x.newObj (tk := tk2) hD2 ho2 hk2
  dsimp only at x2 ⊢
  generalize hs2' : ({ heap := h2, gens := s'.gens, drawn := s'.drawn, toks := tk2, os := s'.os } : Shared) = s2 at x2 ⊢
  -- told
  refine Call_ (ng (W.keeps x2.keep) hmP ?_)
  refine callWith_def hdP ?_
  refine args_cons ?_
  refine nm x2.ns hmc ?_
  refine args_cons ?_
  refine at_name x2.ns hmw (x2.ob _ (.tail _ hDw)).1 how (by decide) huw (by decide) fun tk3 => ?_
  refine args_cons ?_
  refine wpAny_BinOp ?_
  refine wpAny_Constant_int ?_
  refine wpAny_Constant_int ?_
  refine pow_int_small (by decide) (by decide) (by decide) ?_
  refine args_nil ?_
  refine ⟨x2.keep _ _ hoP, wpAny_call ?_⟩
  obtain ⟨vc, hlc, hic⟩ := list_of_side (x2.ob _ (.tail _ hC)).1 hCs
  obtain ⟨vq, hlq, hiq⟩ := list_of_side (x2.ob _ (.tail _ hq)).1 hqs
  refine call_told (FP.keeps x2.keep) (W.keeps x2.keep) (rm.mono (by decide)) hlc hic hlq hiq (by decide) hcz ?_
  intro D4 us4 h4 tk4 hD4 hk4 hl4 hi4
  have x4 := x2.grow (tk := tk4) hk4
  dsimp only at x4 ⊢
  generalize hs4 : ({ heap := h4, gens := s2.gens, drawn := s2.drawn, toks := tk4, os := s2.os } : Shared) = s4 at x4 ⊢
  have hl4' : s4.heap.IsList D4 us4.toArray := by rw [← hs4]; exact hl4
  obtain ⟨v2, hl2', hi2'⟩ := list_of_side (x4.ob _ (.head _)).1 hs2
  rw [show toldT ((10 : Int) ^ Int.toNat 6) cs ds = _ from hlaw] at hi4
  refine eq_ints hl2' hl4' hi2' hi4 hun ?_
  exact h _ _ x4.unwatch
end
end Mine
end
section -- L16
namespace Mine
open PySem PySem.W PySem.Calls PyProof.Rows
set_option maxRecDepth 100000

def word0 (ns : List Int) : List Int := wordOf ns ((pieceT (cellAt ns 4).toNat).getD 0 [])
def word1 (ns : List Int) : List Int := wordOf ns ((pieceT (cellAt ns 4).toNat).getD 1 [])
theorem wordsT_two (ns : List Int) : wordsT ns = [word0 ns, word1 ns] := by
  unfold wordsT word0 word1
  have h := pieceT_length (cellAt ns 4).toNat
  generalize pieceT (cellAt ns 4).toNat = P at h ⊢
  match P, h with
  | [x, y], _ => rfl
abbrev start0 (ns : List Int) : Tb := startOf (countsT ns)
abbrev tab0 (ns : List Int) : Tb := ledT (start0 ns) (wN (word0 ns))
abbrev tab1 (ns : List Int) : Tb := ledT (start0 ns) (wN (word1 ns))

/-- what the walk wants of plain numbers -/
structure Plain (ns : List Int) : Prop where
  c4 : 0 ≤ cellAt ns 4
  w0 : WordOk (word0 ns)
  w1 : WordOk (word1 ns)
  wh : WordOk (homeW (word0 ns))
  len : (word0 ns).length = 4 ∨ (word0 ns).length = 5
  same : SameT (tab0 ns) (tab1 ns)
  home : SameT (ledT (tab0 ns) (wN (homeW (word0 ns)))) ((start0 ns).filterMap (shiftF (2 * (word0 ns).length)))
  told : toldT 1000000 (countsT ns) (wN (word0 ns)) = [readT (tab0 ns) 1000000 120, readT (tab0 ns) 1000000 121, readT (tab0 ns) 1000000 122]
  small : ∀ p ∈ tab0 ns, p.2.natAbs < 2 ^ 64

theorem start_keys (cs : List Int) : Keys (RowN 2) (startOf cs) := by
  intro p hp
  unfold startOf at hp
  obtain ⟨q, hq, e⟩ := List.mem_filterMap.mp hp
  have e' : q = p := by unfold nzF at e; split at e <;> cases e; rfl
  subst e'
  simp only [List.mem_cons, List.not_mem_nil, or_false] at hq
  rcases hq with rfl | rfl | rfl
  · exact ⟨⟨0, 0, by decide, rfl⟩, Nat.le_refl 2⟩
  · exact ⟨⟨0, 1, by decide, rfl⟩, Nat.le_refl 2⟩
  · exact ⟨⟨0, 2, by decide, rfl⟩, Nat.le_refl 2⟩
theorem start_len (cs : List Int) : (startOf cs).length ≤ 3 := startP_len cs 3

section
variable {prog : Program} {w : World} {A : Around} {E : Value → Shared → Prop} {s : Shared} {mg mb : Str → Option Value}

set_option maxHeartbeats 8000000 in
theorem call_law {a l : Addr} {cdv : Value} {vs : List Value} {ns : List Int} {R : Result → Shared → Prop} (F : FnAt s.heap a "law" 17 cdv) (W : Wd mg mb s.heap) (rm : Rm A 10) (hu : A.units < 4000) (hl : s.heap.IsList l vs.toArray) (hv : IntsAre vs ns) (hz : ns.length ≤ 1000) (P : Plain ns)
    (h : ∀ h' tk, Kp s.heap h' → R (.ok (.ret (.bool true))) { s with heap := h', toks := tk }) :
    codeS (model prog w) A (.call (.ref a) ⟨[.ref l], []⟩) R s := by
  refine wp_enterS (binds := [("script", .ref l)]) F W rm.room (fun _ _ _ _ => by rfl) ?_ fun s₁ x => ?_
  · intro x hx
    simp only [List.mem_cons, List.not_mem_nil, or_false] at hx
    rcases hx with rfl
    exact .inl rfl
  generalize hL : s.heap.objs.size = L at x ⊢
  have rm' := rm.deeper (envOfC "law" (scopeOf 17) L a cdv)
  have hu' : (A.deeper (envOfC "law" (scopeOf 17) L a cdv)).units < 5000 := by show A.units + 3 < 5000; omega
  generalize hA : A.deeper (envOfC "law" (scopeOf 17) L a cdv) = A' at rm' hu' ⊢
  have hh : A'.handled = none := rm'.hh
  have x0 : LSt prog w s L a cdv _ _ [] [] s₁ := ⟨x, (fun p hp => nomatch hp), (fun p hp => nomatch hp)⟩
  rw [law_body]
  -- drawn
  refine wpS_execs_plain ?_
  refine law_0 hh W x0 rfl hl hv hz ?_
  intro D0 o0 s1 hs0 x1
  -- cells
  refine wpS_execs_plain ?_
  refine law_1 W x1 rfl (.head _) hs0 ?_
  intro C1 o1 s2 hs1 x2
  -- counts
  refine wpS_execs_plain ?_
  refine law_2 x2 rfl (.head _) hs1 ?_
  intro D2 o2 s3 hs2 x3
  -- words
  refine wpS_execs_plain ?_
  refine law_3 hh W (rm'.mono (by decide)) x3 rfl (.tail _ (.head _)) hs1 P.c4 ?_
  intro D3 o3 us3 news3 s4 ho3 hs3 x4
  rw [wordsT_two] at hs3
  obtain ⟨q0, w0, hq0, hq0m, hq0s, hw0⟩ : ∃ p xs, us3[0]? = some (.ref p.1) ∧ p ∈ news3 ∧ SideO p.2 xs ∧ xs = word0 ns := by
    have hlen := hs3.length
    obtain ⟨v, hv0⟩ : ∃ v, us3[0]? = some v := ⟨_, List.getElem?_eq_getElem (by rw [hlen]; exact Nat.succ_pos 1)⟩
    obtain ⟨p, xs, rfl, hp, hps, hx⟩ := sides_at hs3 hv0
    exact ⟨p, xs, hv0, hp, hps, (Option.some.inj hx).symm⟩
  subst hw0
  have hin3 : ∀ {X : List (Addr × Obj)}, q0 ∈ (D3, o3) :: news3 ++ X := fun {X} => List.mem_append_left _ (.tail _ hq0m)
  have hC1 : (C1, o1) ∈ (D3, o3) :: news3 ++ ((D2, o2) :: (C1, o1) :: (D0, o0) :: []) := List.mem_append_right _ (.tail _ (.head _))
  -- end
  refine wpS_execs_plain ?_
  refine law_4 x4 rfl hC1 hs1 ?_
  intro te s5 x5
  -- start
  refine wpS_execs_plain ?_
  refine law_5 hh W x5 rfl (List.mem_append_right _ (.head _)) hs2 ?_
  intro D5 s6 x6
  -- tables
  refine wpS_execs_plain ?_
  refine law_6 (ws := [word0 ns, word1 ns]) hh W (rm'.mono (by decide)) x6 rfl (.head _) ho3 (hs3.mono fun p hp => List.mem_append_left _ (.tail _ hp)) ?_ (Nat.le_of_lt (show 2 < 100 by decide)) rfl (.head _) (start_keys _) rfl (endT_ok ns) ?_
  · intro xs hxs
    simp only [List.mem_cons, List.not_mem_nil, or_false] at hxs
    rcases hxs with rfl | rfl
    · exact P.w0
    · exact P.w1
  intro D6 o6 us6 news6 s7 ho6 hs6 x7
  obtain ⟨p0, hp0, hp0m, hT0⟩ := tabs_at hs6 (i := 0) (T := tab0 ns) rfl
  obtain ⟨p1, hp1, hp1m, hT1⟩ := tabs_at hs6 (i := 1) (T := tab1 ns) rfl
  have hK0 : Keys (RowN 12) (tab0 ns) := by
    have h1 := ledT_keys (wN (word0 ns)) (start_keys (countsT ns))
    exact h1.mono fun k hk => hk.up (by have := P.w0.2.2.2; omega)
  -- size
  refine wpS_execs_plain ?_
  refine law_7 W x7 rfl (List.mem_append_right _ (.head _)) ho3 hq0 (List.mem_append_right _ hin3) hq0s (by rcases P.len with e | e <;> rw [e] <;> decide) ?_
  intro ts s8 x8
  -- turned
  refine wpS_execs_cons ?_
  refine law_8 hh W (rm'.mono (by decide)) x8 rfl (List.mem_append_right _ (.head _)) ho3 hq0 (List.mem_append_right _ hin3) hq0s P.len ?_ rfl ?_
  · intro n hn
    rw [P.w0.1] at hn
    obtain ⟨d, hd, rfl⟩ := List.mem_map.mp hn
    have := P.w0.2.1 d hd
    omega
  intro b tb s9 hb x9
  -- if
  refine wpS_execs_plain ?_
  refine law_9 hh W hu' x9 rfl (List.mem_append_right _ (.head _)) ho3 hq0 (List.mem_append_right _ hin3) hq0s (by rcases P.len with e | e <;> rw [e] <;> decide) rfl hb ?_
  intro s10 x10
  -- home
  refine wpS_execs_plain ?_
  refine law_10 hh W (rm'.mono (by decide)) x10 rfl (.head _) ho6 hp0 (.tail _ (List.mem_append_left _ hp0m)) hT0 hK0 (by decide) rfl hb P.wh (by rcases P.len with e | e <;> rw [e] <;> decide) rfl (endT_ok ns) ?_
  intro H s11 x11
  -- if
  refine wpS_execs_plain ?_
  refine law_11 hh W hu' x11 rfl (.head _) ho6 hp0 hp1 (.tail _ (List.mem_append_left _ hp0m)) (.tail _ (List.mem_append_left _ hp1m)) hT0 hT1 P.same rfl (.head _) rfl (.tail _ (.head _)) (start_keys _) (by decide) (Nat.le_trans (start_len _) (by decide)) rfl P.len P.home ?_
  intro s12 x12
  -- return
  refine wpS_execs_plain ?_
  refine law_12 hh W hu' (rm'.mono (by decide)) x12 rfl (.head _) ho6 hp0 (.tail _ (List.mem_append_left _ hp0m)) hT0 hK0 (by decide) P.small rfl (List.mem_append_right _ (.head _)) ho3 hq0 (List.mem_append_right _ hin3) (by rw [← P.w0.1]; exact hq0s) rfl (List.mem_append_right _ (List.mem_append_right _ (.head _))) hs2 (Nat.le_of_lt (show 3 < 1000 by decide)) P.told ?_
  intro m' s13 x13
  obtain ⟨H13, tk13, rfl⟩ := x13.ic.toInCall.same
  exact h H13 tk13 x13.keep
end
end Mine
end
section -- PL1
namespace Mine
open PySem PySem.W PyProof.Rows
set_option maxRecDepth 100000

/-- a table weighed -/
def sumW (φ : Str → Int) (T : Tb) : Int := (T.map fun p => p.2 * φ p.1).sum
def nrm (T : Tb) : Nat := (T.map fun p => p.2.natAbs).sum
abbrev Nd (T : Tb) : Prop := (T.map (·.1)).Nodup

theorem sumW_nil (φ : Str → Int) : sumW φ [] = 0 := rfl
theorem sumW_cons (φ : Str → Int) (p : Str × Int) (T : Tb) : sumW φ (p :: T) = p.2 * φ p.1 + sumW φ T := by simp [sumW]
theorem sumW_append (φ : Str → Int) (T U : Tb) : sumW φ (T ++ U) = sumW φ T + sumW φ U := by simp [sumW]
theorem nrm_cons (p : Str × Int) (T : Tb) : nrm (p :: T) = p.2.natAbs + nrm T := by simp [nrm]
theorem nrm_append (T U : Tb) : nrm (T ++ U) = nrm T + nrm U := by simp [nrm]
theorem nd_cons {p : Str × Int} {T : Tb} (h : Nd (p :: T)) : p.1 ∉ T.map (·.1) ∧ Nd T := by
  unfold Nd at h
  rw [List.map_cons, List.nodup_cons] at h
  exact h

theorem any_iff (T : Tb) (k : Str) : (T.any fun p => p.1 = k) = true ↔ k ∈ T.map (·.1) := by
  rw [List.any_eq_true, List.mem_map]
  constructor
  · rintro ⟨p, hp, e⟩; exact ⟨p, hp, by simpa using e⟩
  · rintro ⟨p, hp, e⟩; exact ⟨p, hp, by simpa using e⟩
theorem put_ne {k' k : Str} {c' c : Int} {T : Tb} (h : k' ≠ k) : put ((k', c') :: T) k c = (k', c') :: put T k c := by
  unfold put
  simp only [List.any_cons, decide_eq_false h, Bool.false_or, List.map_cons, if_neg h]
  split <;> simp
theorem map_none {k : Str} {c : Int} : ∀ {T : Tb}, k ∉ T.map (·.1) → T.map (fun p => if p.1 = k then (p.1, c) else p) = T
  | [], _ => rfl
  | p :: T, h => by
    rw [List.map_cons, List.mem_cons, not_or] at h
    rw [List.map_cons, if_neg (fun e => h.1 e.symm), map_none h.2]
theorem put_hit {k : Str} {c' c : Int} {T : Tb} (h : k ∉ T.map (·.1)) : put ((k, c') :: T) k c = (k, c) :: T := by
  unfold put
  simp only [List.any_cons, decide_true, Bool.true_or, if_true, List.map_cons]
  rw [map_none h]
theorem get_ne {k' k : Str} {c' : Int} {T : Tb} (h : k' ≠ k) : get ((k', c') :: T) k = get T k := by
  unfold get
  simp only [List.find?_cons, decide_eq_false h]
theorem get_hit {k : Str} {c' : Int} {T : Tb} : get ((k, c') :: T) k = some c' := by
  unfold get
  simp only [List.find?_cons, decide_true]
  rfl
theorem get_nil (k : Str) : get [] k = none := rfl

theorem sumW_put (φ : Str → Int) (k : Str) (c : Int) : ∀ (T : Tb), Nd T → sumW φ (put T k c) = sumW φ T + (c - (get T k).getD 0) * φ k
  | [], _ => by
    show sumW φ [(k, c)] = 0 + (c - 0) * φ k
    rw [sumW_cons, sumW_nil]; simp
  | (k', c') :: T, h => by
    obtain ⟨h1, h2⟩ := nd_cons h
    by_cases e : k' = k
    · subst e
      rw [put_hit h1, get_hit, sumW_cons, sumW_cons]
      show c * φ k' + sumW φ T = c' * φ k' + sumW φ T + (c - c') * φ k'
      rw [Int.sub_mul]; omega
    · rw [put_ne e, get_ne e, sumW_cons, sumW_cons, sumW_put φ k c T h2]
      omega
theorem nrm_put (k : Str) (c : Int) : ∀ (T : Tb), Nd T → nrm (put T k c) ≤ nrm T + (c - (get T k).getD 0).natAbs
  | [], _ => by
    show nrm [(k, c)] ≤ 0 + (c - 0).natAbs
    simp [nrm]
  | (k', c') :: T, h => by
    obtain ⟨h1, h2⟩ := nd_cons h
    by_cases e : k' = k
    · subst e
      rw [put_hit h1, get_hit, nrm_cons, nrm_cons]
      show c.natAbs + nrm T ≤ c'.natAbs + nrm T + (c - c').natAbs
      omega
    · rw [put_ne e, get_ne e, nrm_cons, nrm_cons]
      have := nrm_put k c T h2
      show c'.natAbs + _ ≤ c'.natAbs + _ + _
      omega
theorem put_keys (k : Str) (c : Int) : ∀ (T : Tb), (put T k c).map (·.1) = if k ∈ T.map (·.1) then T.map (·.1) else T.map (·.1) ++ [k]
  | T => by
    by_cases h : k ∈ T.map (·.1)
    · rw [if_pos h]
      unfold put
      rw [if_pos ((any_iff T k).mpr h), List.map_map]
      apply List.map_congr_left
      intro p _
      show (if p.1 = k then (p.1, c) else p).1 = p.1
      split <;> rfl
    · rw [if_neg h]
      unfold put
      rw [if_neg (fun e => h ((any_iff T k).mp e)), List.map_append]
      rfl
theorem nd_put (k : Str) (c : Int) {T : Tb} (h : Nd T) : Nd (put T k c) := by
  unfold Nd
  rw [put_keys]
  split
  · exact h
  · rename_i hk
    rw [List.nodup_append]
    refine ⟨h, by simp, ?_⟩
    intro a ha b hb
    rw [List.mem_singleton.mp hb]
    intro e
    exact hk (e ▸ ha)

theorem set_all : ∀ (U acc : Tb), Nd (acc ++ U) → U.foldl setStep acc = acc ++ U
  | [], acc, _ => by simp
  | p :: U, acc, h => by
    have h1 : p.1 ∉ acc.map (·.1) := by
      unfold Nd at h
      rw [List.map_append, List.nodup_append] at h
      intro hm
      exact h.2.2 p.1 hm p.1 (by simp) rfl
    rw [List.foldl_cons, setStep, put_fresh h1, set_all U _ (by rw [List.append_assoc]; exact h), List.append_assoc]
    rfl
theorem addT_eq {T : Tb} (h : Nd T) (U : Tb) : addT T U = U.foldl addStep T := by
  unfold addT
  rw [set_all T [] (by simpa using h)]
  rfl
theorem nd_fold : ∀ (U : Tb) {T : Tb}, Nd T → Nd (U.foldl addStep T)
  | [], _, h => h
  | p :: U, T, h => nd_fold U (nd_put p.1 _ h)
theorem sumW_fold (φ : Str → Int) : ∀ (U : Tb) {T : Tb}, Nd T → sumW φ (U.foldl addStep T) = sumW φ T + sumW φ U
  | [], T, _ => by simp [sumW]
  | p :: U, T, h => by
    have hs : Nd (addStep T p) := nd_put p.1 _ h
    rw [List.foldl_cons, sumW_fold φ U hs, sumW_cons]
    unfold addStep
    rw [sumW_put φ _ _ T h]
    have : (get T p.1).getD 0 + p.2 - (get T p.1).getD 0 = p.2 := by omega
    rw [this]
    omega
theorem nrm_fold : ∀ (U : Tb) {T : Tb}, Nd T → nrm (U.foldl addStep T) ≤ nrm T + nrm U
  | [], T, _ => by simp [nrm]
  | p :: U, T, h => by
    have hs : Nd (addStep T p) := nd_put p.1 _ h
    rw [List.foldl_cons, nrm_cons]
    refine Nat.le_trans (nrm_fold U hs) ?_
    unfold addStep
    have h1 := nrm_put p.1 ((get T p.1).getD 0 + p.2) T h
    have : (get T p.1).getD 0 + p.2 - (get T p.1).getD 0 = p.2 := by omega
    rw [this] at h1
    omega
theorem nd_addT {T : Tb} (h : Nd T) (U : Tb) : Nd (addT T U) := by rw [addT_eq h]; exact nd_fold U h
theorem sumW_addT (φ : Str → Int) {T : Tb} (h : Nd T) (U : Tb) : sumW φ (addT T U) = sumW φ T + sumW φ U := by rw [addT_eq h]; exact sumW_fold φ U h
theorem nrm_addT {T : Tb} (h : Nd T) (U : Tb) : nrm (addT T U) ≤ nrm T + nrm U := by rw [addT_eq h]; exact nrm_fold U h

theorem sumW_filterMap (φ ψ : Str → Int) {g : Str × Int → Option (Str × Int)} : ∀ {T : Tb}, (∀ p ∈ T, (match g p with | none => 0 | some q => q.2 * φ q.1) = p.2 * ψ p.1) → sumW φ (T.filterMap g) = sumW ψ T
  | [], _ => rfl
  | p :: T, h => by
    have h1 := h p (.head _)
    have ih := sumW_filterMap φ ψ (T := T) fun q hq => h q (.tail _ hq)
    rw [List.filterMap_cons, sumW_cons, ← h1]
    cases hg : g p with
    | none => simp only [ih]; omega
    | some q => simp only [sumW_cons, ih]
theorem nrm_filterMap {g : Str × Int → Option (Str × Int)} (hg : ∀ p q, g p = some q → q.2.natAbs = p.2.natAbs) : ∀ (T : Tb), nrm (T.filterMap g) ≤ nrm T
  | [] => Nat.le_refl _
  | p :: T => by
    have ih := nrm_filterMap hg T
    rw [List.filterMap_cons, nrm_cons]
    cases e : g p with
    | none => simp only; omega
    | some q => simp only [nrm_cons, hg p q e]; omega
theorem nd_filterMap {g : Str × Int → Option (Str × Int)} : ∀ {T : Tb}, Nd T → Apart T g → Nd (T.filterMap g)
  | [], _, _ => List.Pairwise.nil
  | p :: T, h, ha => by
    obtain ⟨h1, h2⟩ := nd_cons h
    have ih := nd_filterMap h2 fun x hx y hy => ha x (.tail _ hx) y (.tail _ hy)
    rw [List.filterMap_cons]
    cases e : g p with
    | none => exact ih
    | some q =>
      show ((q :: T.filterMap g).map (·.1)).Nodup
      rw [List.map_cons, List.nodup_cons]
      refine ⟨fun hm => ?_, ih⟩
      obtain ⟨r, hr, er⟩ := List.mem_map.mp hm
      obtain ⟨x, hx, ex⟩ := List.mem_filterMap.mp hr
      have := ha p (.head _) x (.tail _ hx) q r e ex er.symm
      exact h1 (this ▸ List.mem_map.mpr ⟨x, hx, rfl⟩)
theorem sumW_sent (φ : Str → Int) (T : Tb) : sumW φ (sentT T) = sumW (fun k => φ (dot k)) T := by
  unfold sumW sentT
  rw [List.map_map]
  rfl
theorem nrm_sent (T : Tb) : nrm (sentT T) = nrm T := by
  unfold nrm sentT
  rw [List.map_map]
  rfl
theorem nd_sent {T : Tb} (h : Nd T) : Nd (sentT T) := by
  unfold Nd sentT
  unfold Nd at h
  rw [List.map_map]
  rw [show ((fun x : Str × Int => x.1) ∘ fun p => (dot p.1, p.2)) = dot ∘ (fun x : Str × Int => x.1) from rfl, ← List.map_map]
  unfold List.Nodup at h ⊢
  rw [List.pairwise_map]
  exact h.imp fun hne e => hne (dot_inj e)
theorem sumW_congr {φ ψ : Str → Int} {T : Tb} (h : ∀ p ∈ T, φ p.1 = ψ p.1) : sumW φ T = sumW ψ T := by
  unfold sumW
  congr 1
  apply List.map_congr_left
  intro p hp
  show p.2 * φ p.1 = p.2 * ψ p.1
  rw [h p hp]
theorem sumW_add (φ ψ : Str → Int) : ∀ (T : Tb), sumW (fun k => φ k + ψ k) T = sumW φ T + sumW ψ T
  | [] => rfl
  | p :: T => by rw [sumW_cons, sumW_cons, sumW_cons, sumW_add φ ψ T, Int.mul_add]; omega
theorem sumW_mul (a : Int) (φ : Str → Int) : ∀ (T : Tb), sumW (fun k => a * φ k) T = a * sumW φ T
  | [] => by simp [sumW]
  | p :: T => by rw [sumW_cons, sumW_cons, sumW_mul a φ T, Int.mul_add]; congr 1; rw [← Int.mul_assoc, ← Int.mul_assoc, Int.mul_comm p.2 a]
end Mine
end
section -- PL2
namespace Mine
open PySem PySem.W PyProof.Rows
set_option maxRecDepth 100000

/-- a row of m + 1 dots and the sign s -/
def rowS (m s : Nat) : Str := ⟨(List.replicate (m + 1) 46 ++ [120 + s]).toArray⟩
theorem row_eq {k : Str} (h : IsRow k) : ∃ m s, s < 3 ∧ k = rowS m s := by
  obtain ⟨m, s, hs, e⟩ := h
  refine ⟨m, s, hs, ?_⟩
  obtain ⟨k⟩ := k
  unfold rowS
  congr 1
  exact Array.toList_inj.mp (by simpa using e)
theorem rowS_is (m s : Nat) (h : s < 3) : IsRow (rowS m s) := ⟨m, s, h, rfl⟩
theorem dot_row (m s : Nat) : dot (rowS m s) = rowS (m + 1) s := by
  unfold dot rowS
  simp [List.replicate_succ]
theorem last_row (m s : Nat) : lastC (rowS m s) = 120 + s := by
  unfold lastC rowS
  simp
theorem reSign_row (m s c : Nat) : reSign (rowS m s) (120 + c) = rowS m c := by
  unfold reSign rowS
  simp
theorem dots_row (k m s : Nat) : dotsN k (rowS m s) = rowS (m + k) s := by
  unfold dotsN rowS
  congr 1
  apply Array.toList_inj.mp
  simp only [← List.append_assoc, List.replicate_append_replicate]
  rw [show k + (m + 1) = m + k + 1 from by omega]
theorem len_row (m s : Nat) : (rowS m s).cps.toList.length = m + 2 := by
  unfold rowS
  simp

def near (s o : Nat) : Bool := s + 1 == o || o + 1 == s
/-- one deed, turned to weights -/
def AD (d : Nat) (f : Nat → Nat → Int) (m s : Nat) : Int :=
  if s = d % 3 then (if d < 3 then - f m s else - f (m + 2) s)
  else (if d < 3 then f (m + 2) s else f m s) + (if near s (d % 3) then f (m + 1) (d % 3) else 0)
def AW : List Nat → (Nat → Nat → Int) → Nat → Nat → Int
  | [], f => f
  | d :: w, f => AD d (AW w f)
/-- .. as weights of rows -/
def adj (d : Nat) (φ : Str → Int) (k : Str) : Int :=
  if lastC k = 120 + d % 3 then (if d < 3 then - φ k else - φ (dot (dot k)))
  else (if d < 3 then φ (dot (dot k)) else φ k) + (if lastC k ∈ signs (d % 3) then φ (dot (reSign k (120 + d % 3))) else 0)

theorem near_signs {s o : Nat} (hs : s < 3) (ho : o < 3) (hne : s ≠ o) : (120 + s ∈ signs o) ↔ near s o = true := by
  have h1 : s = 0 ∨ s = 1 ∨ s = 2 := by omega
  have h2 : o = 0 ∨ o = 1 ∨ o = 2 := by omega
  rcases h1 with rfl | rfl | rfl <;> rcases h2 with rfl | rfl | rfl <;> first | (exact absurd rfl hne) | decide
theorem adj_row (d : Nat) (φ : Str → Int) (m s : Nat) (hs : s < 3) : adj d φ (rowS m s) = AD d (fun m s => φ (rowS m s)) m s := by
  have ho : d % 3 < 3 := Nat.mod_lt _ (by decide)
  unfold adj AD
  rw [last_row]
  by_cases h : s = d % 3
  · rw [if_pos (by omega), if_pos h, dot_row, dot_row]
  · rw [if_neg (by omega), if_neg h, dot_row, dot_row, reSign_row, dot_row]
    congr 1
    by_cases hn : near s (d % 3) = true
    · rw [if_pos ((near_signs hs ho h).mpr hn), if_pos hn]
    · rw [if_neg (fun x => hn ((near_signs hs ho h).mp x)), if_neg hn]

theorem nd_nil : Nd [] := List.Pairwise.nil

/-- all names are rows -/
abbrev Rw (T : Tb) : Prop := Keys IsRow T

theorem fold_beside (ψ : Str → Int) (M : Tb) (o : Nat) : ∀ (l : List Nat) {b : Tb}, Nd b → Nd (l.foldl (fun b sg => addT b (M.filterMap (madeF o sg))) b) ∧
    sumW ψ (l.foldl (fun b sg => addT b (M.filterMap (madeF o sg))) b) = sumW ψ b + (l.map fun sg => sumW ψ (M.filterMap (madeF o sg))).sum
  | [], b, h => ⟨h, by simp⟩
  | sg :: l, b, h => by
    have ih := fold_beside ψ M o l (nd_addT h (M.filterMap (madeF o sg)))
    refine ⟨ih.1, ?_⟩
    rw [List.foldl_cons, ih.2, sumW_addT ψ h, List.map_cons, List.sum_cons]
    omega
theorem nrm_beside (M : Tb) (o : Nat) : ∀ (l : List Nat) {b : Tb}, Nd b → nrm (l.foldl (fun b sg => addT b (M.filterMap (madeF o sg))) b) ≤ nrm b + l.length * nrm M
  | [], b, h => by simp
  | sg :: l, b, h => by
    have ih := nrm_beside M o l (nd_addT h (M.filterMap (madeF o sg)))
    have h1 := nrm_addT h (M.filterMap (madeF o sg))
    have h2 := nrm_filterMap (g := madeF o sg) (fun p q e => by unfold madeF at e; split at e <;> cases e; rfl) M
    rw [List.foldl_cons, List.length_cons, Nat.add_mul, Nat.one_mul]
    omega

theorem sum_made (ψ : Str → Int) (M : Tb) (o : Nat) (ho : o < 3) : ((signs o).map fun sg => sumW ψ (M.filterMap (madeF o sg))).sum = sumW (fun k => if lastC k ∈ signs o then ψ (reSign k (120 + o)) else 0) M := by
  have one : ∀ sg, sumW ψ (M.filterMap (madeF o sg)) = sumW (fun k => if lastC k = sg then ψ (reSign k (120 + o)) else 0) M := by
    intro sg
    refine sumW_filterMap ψ _ fun p _ => ?_
    unfold madeF
    split
    · rename_i h; split at h
      · cases h
      · rename_i hq; rw [if_neg hq]; simp
    · rename_i q h; split at h
      · rename_i hq; cases h; rw [if_pos hq]
      · cases h
  have h : o = 0 ∨ o = 1 ∨ o = 2 := by omega
  rcases h with rfl | rfl | rfl
  · show sumW ψ _ + 0 = _
    rw [one, Int.add_zero]
    refine sumW_congr fun p _ => ?_
    simp [signs]
  · show sumW ψ _ + (sumW ψ _ + 0) = _
    rw [one, one, Int.add_zero, ← sumW_add]
    refine sumW_congr fun p _ => ?_
    simp only [signs, List.mem_cons, List.not_mem_nil, or_false]
    by_cases h1 : lastC p.1 = 120
    · rw [if_pos h1, if_neg (by omega), if_pos (.inl h1)]; simp
    · by_cases h2 : lastC p.1 = 122
      · rw [if_neg h1, if_pos h2, if_pos (.inr h2)]; simp
      · rw [if_neg h1, if_neg h2, if_neg (by omega)]; simp
  · show sumW ψ _ + 0 = _
    rw [one, Int.add_zero]
    refine sumW_congr fun p _ => ?_
    simp [signs]

theorem nd_first {T : Tb} (h : Nd T) (d : Nat) : Nd (firstT T d) ∧ Nd (secondT T d) := by
  have h1 := nd_filterMap h (apart_still T (d % 3))
  have h2 := nd_filterMap h (apart_moved T (d % 3))
  unfold firstT secondT
  constructor <;> split <;> assumption
theorem nd_done {T : Tb} (h : Nd T) (d : Nat) : Nd (doneT T d) := nd_filterMap (nd_addT (nd_first h d).1 _) (apart_nz _)
theorem rw_done {T : Tb} {n : Nat} (h : Keys (RowN n) T) (d : Nat) : Keys (RowN (n + 2)) (doneT T d) := doneT_keys h
theorem sumW_still (φ : Str → Int) (T : Tb) (o : Nat) : sumW φ (T.filterMap (stillF o)) = sumW (fun k => if lastC k = 120 + o then - φ k else 0) T := by
  refine sumW_filterMap φ _ fun p _ => ?_
  unfold stillF
  split
  · rename_i h; split at h
    · cases h
    · rename_i hq; rw [if_neg hq]; simp
  · rename_i q h; split at h
    · rename_i hq; cases h; rw [if_pos hq]; simp [Int.neg_mul, Int.mul_neg]
    · cases h
theorem sumW_moved (φ : Str → Int) (T : Tb) (o : Nat) : sumW φ (T.filterMap (movedF o)) = sumW (fun k => if lastC k = 120 + o then 0 else φ k) T := by
  refine sumW_filterMap φ _ fun p _ => ?_
  unfold movedF
  split
  · rename_i h; split at h
    · rename_i hq; rw [if_pos hq]; simp
    · cases h
  · rename_i q h; split at h
    · cases h
    · rename_i hq; cases h; rw [if_neg hq]
theorem sumW_nz (φ : Str → Int) (T : Tb) : sumW φ (T.filterMap nzF) = sumW φ T := by
  refine sumW_filterMap φ _ fun p _ => ?_
  unfold nzF
  split
  · rename_i h; split at h
    · rename_i hq; rw [hq]; simp
    · cases h
  · rename_i q h; split at h
    · cases h
    · cases h; rfl

theorem sumW_done (φ : Str → Int) {T : Tb} (h : Nd T) (d : Nat) : sumW φ (doneT T d) = sumW (adj d φ) T := by
  have ho : d % 3 < 3 := Nat.mod_lt _ (by decide)
  have hfs := nd_first h d
  unfold doneT
  rw [sumW_nz, sumW_addT φ hfs.1, sumW_sent]
  unfold onceT besideT
  rw [sumW_addT _ (nd_sent hfs.2), sumW_sent, (fold_beside _ _ _ _ nd_nil).2, sumW_nil, Int.zero_add, sum_made _ _ _ ho, sumW_moved]
  unfold firstT secondT
  by_cases hd : d < 3
  · rw [if_pos hd, if_pos hd, sumW_still, sumW_moved, ← sumW_add, ← sumW_add]
    refine sumW_congr fun p _ => ?_
    unfold adj
    by_cases hl : lastC p.1 = 120 + d % 3
    · simp only [if_pos hl, if_pos hd]; omega
    · simp only [if_neg hl, if_pos hd]; omega
  · rw [if_neg hd, if_neg hd, sumW_still, sumW_moved, ← sumW_add, ← sumW_add]
    refine sumW_congr fun p _ => ?_
    unfold adj
    by_cases hl : lastC p.1 = 120 + d % 3
    · simp only [if_pos hl, if_neg hd]; omega
    · simp only [if_neg hl, if_neg hd]; omega
theorem nrm_done {T : Tb} (h : Nd T) (d : Nat) : nrm (doneT T d) ≤ 4 * nrm T := by
  have hfs := nd_first h d
  have hs : ∀ o, nrm (T.filterMap (stillF o)) ≤ nrm T := fun o => nrm_filterMap (fun p q e => by unfold stillF at e; split at e <;> cases e; simp) T
  have hm : ∀ o, nrm (T.filterMap (movedF o)) ≤ nrm T := fun o => nrm_filterMap (fun p q e => by unfold movedF at e; split at e <;> cases e; rfl) T
  have h1 : nrm (firstT T d) ≤ nrm T := by unfold firstT; split; exact hs _; exact hm _
  have h2 : nrm (secondT T d) ≤ nrm T := by unfold secondT; split; exact hm _; exact hs _
  have hsg : (signs (d % 3)).length ≤ 2 := by
    have : d % 3 = 0 ∨ d % 3 = 1 ∨ d % 3 = 2 := by omega
    rcases this with e | e | e <;> rw [e] <;> decide
  have h3 : nrm (besideT (T.filterMap (movedF (d % 3))) (d % 3)) ≤ 2 * nrm T := by
    unfold besideT
    have hb := nrm_beside (T.filterMap (movedF (d % 3))) (d % 3) (signs (d % 3)) (b := []) nd_nil
    have hz : nrm [] = 0 := rfl
    rw [hz, Nat.zero_add] at hb
    exact Nat.le_trans hb (Nat.mul_le_mul hsg (hm _))
  have h4 : nrm (onceT T d) ≤ 3 * nrm T := by
    unfold onceT
    have := nrm_addT (nd_sent hfs.2) (besideT (T.filterMap (movedF (d % 3))) (d % 3))
    rw [nrm_sent] at this
    omega
  unfold doneT
  have h5 := nrm_filterMap (g := nzF) (fun p q e => by unfold nzF at e; split at e <;> cases e; rfl) (addT (firstT T d) (sentT (onceT T d)))
  have h6 := nrm_addT hfs.1 (sentT (onceT T d))
  rw [nrm_sent] at h6
  omega
end Mine
end
section -- PL3
namespace Mine
open PySem PySem.W PyProof.Rows
set_option maxRecDepth 100000

def adjW : List Nat → (Str → Int) → Str → Int
  | [], φ => φ
  | d :: w, φ => adj d (adjW w φ)
theorem nd_led : ∀ (w : List Nat) {T : Tb}, Nd T → Nd (ledT T w)
  | [], _, h => h
  | d :: w, _, h => nd_led w (nd_done h d)
theorem sumW_led (φ : Str → Int) : ∀ (w : List Nat) {T : Tb}, Nd T → sumW φ (ledT T w) = sumW (adjW w φ) T
  | [], _, _ => rfl
  | d :: w, T, h => by
    show sumW φ (ledT (doneT T d) w) = _
    rw [sumW_led φ w (nd_done h d), sumW_done _ h]
    rfl
theorem nrm_led : ∀ (w : List Nat) {T : Tb}, Nd T → nrm (ledT T w) ≤ 4 ^ w.length * nrm T
  | [], T, _ => by simp [ledT]
  | d :: w, T, h => by
    show nrm (ledT (doneT T d) w) ≤ _
    refine Nat.le_trans (nrm_led w (nd_done h d)) ?_
    have := Nat.mul_le_mul_left (4 ^ w.length) (nrm_done h d)
    rw [List.length_cons, Nat.pow_succ, Nat.mul_assoc]
    exact this
theorem led_append (T : Tb) (u v : List Nat) : ledT (ledT T u) v = ledT T (u ++ v) := by simp [ledT]

theorem AD_congr {d : Nat} {f g : Nat → Nat → Int} (h : ∀ m s, s < 3 → f m s = g m s) (m s : Nat) (hs : s < 3) : AD d f m s = AD d g m s := by
  have ho : d % 3 < 3 := Nat.mod_lt _ (by decide)
  unfold AD
  rw [h m s hs, h (m + 2) s hs, h (m + 1) (d % 3) ho]
theorem adjW_row : ∀ (w : List Nat) (φ : Str → Int) (m s : Nat), s < 3 → adjW w φ (rowS m s) = AW w (fun m s => φ (rowS m s)) m s
  | [], _, _, _, _ => rfl
  | d :: w, φ, m, s, hs => by
    show adj d (adjW w φ) (rowS m s) = AD d (AW w _) m s
    rw [adj_row d _ m s hs]
    exact AD_congr (fun m s hs => adjW_row w φ m s hs) m s hs
theorem AW_append : ∀ (u v : List Nat) (f : Nat → Nat → Int), AW (u ++ v) f = AW u (AW v f)
  | [], _, _ => rfl
  | d :: u, v, f => by
    show AD d (AW (u ++ v) f) = AD d (AW u (AW v f))
    rw [AW_append u v f]
theorem AW_congr : ∀ (w : List Nat) {f g : Nat → Nat → Int}, (∀ m s, s < 3 → f m s = g m s) → ∀ m s, s < 3 → AW w f m s = AW w g m s
  | [], _, _, h => h
  | _ :: w, _, _, h => fun m s hs => AD_congr (AW_congr w h) m s hs

/-- the braids' pieces -/
def braids : List (List Nat × List Nat) := [([0, 1, 0], [1, 0, 1]), ([1, 2, 1], [2, 1, 2]), ([0, 1, 3], [4, 0, 1]), ([1, 2, 4], [5, 1, 2]), ([3, 4, 3], [4, 3, 4]), ([4, 5, 4], [5, 4, 5]),
  ([0, 4, 3], [4, 3, 1]), ([1, 5, 4], [5, 4, 2]), ([0, 2], [2, 0]), ([3, 2], [2, 3]), ([0, 5], [5, 0]), ([3, 5], [5, 3])]

/-- sums of terms: a factor, a shift, a sign -/
abbrev Tms := List (Int × Nat × Nat)
def evalT : Tms → (Nat → Nat → Int) → Nat → Int
  | [], _, _ => 0
  | (c, k, s) :: r, f, m => c * f (m + k) s + evalT r f m
def negT : Tms → Tms
  | [] => []
  | (c, k, s) :: r => (-c, k, s) :: negT r
def insT (c : Int) (k s : Nat) : Tms → Tms
  | [] => [(c, k, s)]
  | (c', k', s') :: r => if k = k' ∧ s = s' then (c + c', k', s') :: r else (c', k', s') :: insT c k s r
def normT : Tms → Tms
  | [] => []
  | (c, k, s) :: r => insT c k s (normT r)
def alike (L K : Tms) : Bool := (normT (L ++ negT K)).all fun t => t.1 == 0
theorem evalT_append (f : Nat → Nat → Int) (m : Nat) : ∀ (L K : Tms), evalT (L ++ K) f m = evalT L f m + evalT K f m
  | [], K => by simp [evalT]
  | (c, k, s) :: r, K => by
    show c * f (m + k) s + evalT (r ++ K) f m = c * f (m + k) s + evalT r f m + evalT K f m
    rw [evalT_append f m r K, Int.add_assoc]
theorem evalT_neg (f : Nat → Nat → Int) (m : Nat) : ∀ (L : Tms), evalT (negT L) f m = - evalT L f m
  | [] => rfl
  | (c, k, s) :: r => by
    show -c * f (m + k) s + evalT (negT r) f m = -(c * f (m + k) s + evalT r f m)
    rw [evalT_neg f m r, Int.neg_mul, Int.neg_add]
theorem evalT_ins (f : Nat → Nat → Int) (m : Nat) (c : Int) (k s : Nat) : ∀ (L : Tms), evalT (insT c k s L) f m = c * f (m + k) s + evalT L f m
  | [] => rfl
  | (c', k', s') :: r => by
    unfold insT
    by_cases h : k = k' ∧ s = s'
    · rw [if_pos h, h.1, h.2]
      show (c + c') * f (m + k') s' + evalT r f m = c * f (m + k') s' + (c' * f (m + k') s' + evalT r f m)
      rw [Int.add_mul, Int.add_assoc]
    · rw [if_neg h]
      show c' * f (m + k') s' + evalT (insT c k s r) f m = c * f (m + k) s + (c' * f (m + k') s' + evalT r f m)
      rw [evalT_ins f m c k s r, Int.add_left_comm]
theorem evalT_norm (f : Nat → Nat → Int) (m : Nat) : ∀ (L : Tms), evalT (normT L) f m = evalT L f m
  | [] => rfl
  | (c, k, s) :: r => by
    show evalT (insT c k s (normT r)) f m = c * f (m + k) s + evalT r f m
    rw [evalT_ins, evalT_norm f m r]
theorem evalT_zero (f : Nat → Nat → Int) (m : Nat) : ∀ (L : Tms), (L.all fun t => t.1 == 0) = true → evalT L f m = 0
  | [], _ => rfl
  | (c, k, s) :: r, h => by
    rw [List.all_cons, Bool.and_eq_true, beq_iff_eq] at h
    show c * f (m + k) s + evalT r f m = 0
    rw [show c = 0 from h.1, evalT_zero f m r h.2, Int.zero_mul, Int.zero_add]
theorem alike_eq {L K : Tms} (h : alike L K = true) (f : Nat → Nat → Int) (m : Nat) : evalT L f m = evalT K f m := by
  have h1 := evalT_zero f m _ h
  rw [evalT_norm, evalT_append, evalT_neg] at h1
  omega

/-- a word's weights as terms -/
def symW : List Nat → Nat → Nat → Tms
  | [], k, s => [(1, k, s)]
  | d :: w, k, s => if s = d % 3 then (if d < 3 then negT (symW w k s) else negT (symW w (k + 2) s))
    else (if d < 3 then symW w (k + 2) s else symW w k s) ++ (if near s (d % 3) then symW w (k + 1) (d % 3) else [])
theorem symW_eq (f : Nat → Nat → Int) (m : Nat) : ∀ (w : List Nat) (k s : Nat), AW w f (m + k) s = evalT (symW w k s) f m
  | [], k, s => by
    show f (m + k) s = 1 * f (m + k) s + 0
    rw [Int.one_mul, Int.add_zero]
  | d :: w, k, s => by
    have ih := symW_eq f m w
    show AD d (AW w f) (m + k) s = _
    unfold AD symW
    rw [Nat.add_assoc m k 2, Nat.add_assoc m k 1, ih, ih, ih]
    by_cases h : s = d % 3
    · rw [if_pos h, if_pos h]
      by_cases hd : d < 3
      · rw [if_pos hd, if_pos hd, evalT_neg]
      · rw [if_neg hd, if_neg hd, evalT_neg]
    · rw [if_neg h, if_neg h, evalT_append]
      congr 1
      · by_cases hd : d < 3
        · rw [if_pos hd, if_pos hd]
        · rw [if_neg hd, if_neg hd]
      · by_cases hn : near s (d % 3) = true
        · rw [if_pos hn, if_pos hn]
        · rw [if_neg hn, if_neg hn]; rfl

theorem braids_check : (braids.all fun x => (List.range 3).all fun s => alike (symW x.1 0 s) (symW x.2 0 s)) = true := by decide +kernel
theorem braid_eq (x : List Nat × List Nat) (hx : x ∈ braids) (f : Nat → Nat → Int) (m s : Nat) (hs : s < 3) : AW x.1 f m s = AW x.2 f m s := by
  have h := List.all_eq_true.mp (List.all_eq_true.mp braids_check x hx) s (List.mem_range.mpr hs)
  have h1 := symW_eq f m x.1 0 s
  have h2 := symW_eq f m x.2 0 s
  rw [Nat.add_zero] at h1 h2
  rw [h1, h2]
  exact alike_eq h f m

def inv (d : Nat) : Nat := (d + 3) % 6
theorem inv_check : ((List.range 6).all fun d => (List.range 3).all fun s => alike (symW [d, inv d] 0 s) [(1, 2, s)]) = true := by decide +kernel
theorem inv_eq (d : Nat) (hd : d < 6) (f : Nat → Nat → Int) (m s : Nat) (hs : s < 3) : AD d (AD (inv d) f) m s = f (m + 2) s := by
  have h := List.all_eq_true.mp (List.all_eq_true.mp inv_check d (List.mem_range.mpr hd)) s (List.mem_range.mpr hs)
  have h1 := symW_eq f m [d, inv d] 0 s
  rw [Nat.add_zero] at h1
  show AW [d, inv d] f m s = _
  rw [h1, alike_eq h f m]
  show 1 * f (m + 2) s + 0 = _
  rw [Int.one_mul, Int.add_zero]
theorem AD_shift (d k : Nat) (f : Nat → Nat → Int) (m s : Nat) : AD d (fun m s => f (m + k) s) m s = AD d f (m + k) s := by
  unfold AD
  dsimp only
  rw [show m + 2 + k = m + k + 2 from by omega, show m + 1 + k = m + k + 1 from by omega]
theorem home_eq : ∀ (w : List Nat), (∀ d ∈ w, d < 6) → ∀ (f : Nat → Nat → Int) (m s : Nat), s < 3 → AW (w ++ (w.reverse.map inv)) f m s = f (m + 2 * w.length) s
  | [], _, _, _, _, _ => rfl
  | d :: w, h, f, m, s, hs => by
    have hd := h d (.head _)
    have ih := home_eq w fun e he => h e (.tail _ he)
    rw [List.reverse_cons, List.map_append, List.cons_append, ← List.append_assoc]
    show AD d (AW (w ++ w.reverse.map inv ++ [inv d]) f) m s = _
    rw [AW_append]
    show AD d (AW (w ++ w.reverse.map inv) (AD (inv d) f)) m s = _
    rw [AD_congr (g := fun m s => AD (inv d) f (m + 2 * w.length) s) (fun m s hs => ih _ m s hs) m s hs, AD_shift, inv_eq d hd f _ s hs, List.length_cons]
    rw [show m + 2 * w.length + 2 = m + 2 * (w.length + 1) from by omega]
end Mine
end
section -- PL4
namespace Mine
open PySem PySem.W PyProof.Rows
set_option maxRecDepth 100000

def delta (k : Str) : Str → Int := fun r => if r = k then 1 else 0
theorem delta_none {k : Str} : ∀ {T : Tb}, k ∉ T.map (·.1) → sumW (delta k) T = 0
  | [], _ => rfl
  | p :: T, h => by
    rw [List.map_cons, List.mem_cons, not_or] at h
    rw [sumW_cons, delta_none h.2]
    unfold delta
    rw [if_neg fun e => h.1 e.symm]; simp
theorem delta_get (k : Str) : ∀ {T : Tb}, Nd T → sumW (delta k) T = (get T k).getD 0
  | [], _ => rfl
  | (k', c) :: T, h => by
    obtain ⟨h1, h2⟩ := nd_cons h
    rw [sumW_cons]
    by_cases e : k' = k
    · subst e
      rw [get_hit, delta_none h1]
      show c * delta k' k' + 0 = c
      unfold delta
      rw [if_pos rfl]; omega
    · rw [get_ne e, delta_get k h2]
      show c * delta k k' + _ = _
      unfold delta
      rw [if_neg e]; omega
theorem get_mem : ∀ {T : Tb}, Nd T → ∀ {p : Str × Int}, p ∈ T → get T p.1 = some p.2
  | (k', c) :: T, h, p, hp => by
    obtain ⟨h1, h2⟩ := nd_cons h
    rcases List.mem_cons.mp hp with rfl | hp
    · exact get_hit
    · have hne : k' ≠ p.1 := fun e => h1 (e ▸ List.mem_map.mpr ⟨p, hp, rfl⟩)
      rw [get_ne hne]
      exact get_mem h2 hp
theorem mem_get : ∀ {T : Tb} {k : Str} {c : Int}, get T k = some c → k ∈ T.map (·.1)
  | (k', c') :: T, k, c, h => by
    by_cases e : k' = k
    · subst e; exact .head _
    · rw [get_ne e] at h
      exact .tail _ (mem_get h)
theorem sub_len : ∀ {l1 l2 : List Str}, l1.Nodup → (∀ x ∈ l1, x ∈ l2) → l1.length ≤ l2.length
  | [], _, _, _ => Nat.zero_le _
  | a :: l1, l2, h, hs => by
    rw [List.nodup_cons] at h
    have h1 := sub_len (l2 := l2.erase a) h.2 fun x hx => by
      have hne : x ≠ a := fun e => h.1 (e ▸ hx)
      exact (List.mem_erase_of_ne hne).mpr (hs x (.tail _ hx))
    have ha := hs a (.head _)
    have h2 := List.length_erase_of_mem ha
    have h3 : 0 < l2.length := List.length_pos_of_mem ha
    rw [List.length_cons]
    omega
abbrev Nz (T : Tb) : Prop := ∀ p ∈ T, p.2 ≠ 0
theorem keys_sub {T U : Tb} (hT : Nd T) (hU : Nd U) (zT : Nz T) (h : ∀ k, sumW (delta k) T = sumW (delta k) U) : ∀ p ∈ T, get U p.1 = some p.2 := by
  intro p hp
  have h1 := h p.1
  rw [delta_get _ hT, delta_get _ hU, get_mem hT hp] at h1
  have hz := zT p hp
  cases e : get U p.1 with
  | none => rw [e] at h1; exact absurd h1 hz
  | some c => rw [e] at h1; exact congrArg some h1.symm
theorem same_of {T U : Tb} (hT : Nd T) (hU : Nd U) (zT : Nz T) (zU : Nz U) (h : ∀ φ, sumW φ T = sumW φ U) : SameT T U := by
  have h1 := keys_sub hT hU zT fun k => h _
  have h2 := keys_sub hU hT zU fun k => (h _).symm
  refine ⟨Nat.le_antisymm ?_ ?_, h1⟩
  · have := sub_len (l1 := T.map (·.1)) (l2 := U.map (·.1)) hT fun x hx => by
      obtain ⟨p, hp, rfl⟩ := List.mem_map.mp hx
      exact mem_get (h1 p hp)
    simpa using this
  · have := sub_len (l1 := U.map (·.1)) (l2 := T.map (·.1)) hU fun x hx => by
      obtain ⟨p, hp, rfl⟩ := List.mem_map.mp hx
      exact mem_get (h2 p hp)
    simpa using this

theorem nz_filter (T : Tb) : Nz (T.filterMap nzF) := by
  intro p hp
  obtain ⟨q, _, e⟩ := List.mem_filterMap.mp hp
  unfold nzF at e
  split at e
  · cases e
  · cases e; assumption
theorem nz_led : ∀ (w : List Nat) {T : Tb}, Nz T → Nz (ledT T w)
  | [], _, h => h
  | d :: w, T, _ => nz_led w (nz_filter _)

/-- the first table -/
def rows3 (cs : List Int) : Tb := [(rowOf 120, cs.getD 0 0), (rowOf 121, cs.getD 1 0), (rowOf 122, cs.getD 2 0)]
theorem start_eq (cs : List Int) : startOf cs = (rows3 cs).filterMap nzF := rfl
theorem rowOf_eq (s : Nat) : rowOf (120 + s) = rowS 0 s := rfl
theorem nd_start (cs : List Int) : Nd (startOf cs) := by
  rw [start_eq]
  refine nd_filterMap ?_ (apart_nz _)
  have r1 := row_ne (a := 120) (b := 121) (by decide)
  have r2 := row_ne (a := 120) (b := 122) (by decide)
  have r3 := row_ne (a := 121) (b := 122) (by decide)
  show ([rowOf 120, rowOf 121, rowOf 122] : List Str).Nodup
  simp [r1, r2, r3]
theorem nz_start (cs : List Int) : Nz (startOf cs) := nz_filter _
theorem rw_start (cs : List Int) : Rw (startOf cs) := fun p hp => (start_keys cs p hp).1
theorem nrm_start (cs : List Int) (h : ∀ i, i < 3 → (cs.getD i 0).natAbs ≤ 20) : nrm (startOf cs) ≤ 60 := by
  rw [start_eq]
  refine Nat.le_trans (nrm_filterMap (fun p q e => by unfold nzF at e; split at e <;> cases e; rfl) _) ?_
  have h0 := h 0 (by decide)
  have h1 := h 1 (by decide)
  have h2 := h 2 (by decide)
  show (cs.getD 0 0).natAbs + ((cs.getD 1 0).natAbs + ((cs.getD 2 0).natAbs + 0)) ≤ 60
  omega

/-- two words of one braid make one table -/
theorem same_tabs {T : Tb} (hN : Nd T) (hz : Nz T) (hR : Rw T) {u v : List Nat} (h : ∀ f m s, s < 3 → AW u f m s = AW v f m s) : SameT (ledT T u) (ledT T v) := by
  refine same_of (nd_led u hN) (nd_led v hN) (nz_led u hz) (nz_led v hz) fun φ => ?_
  rw [sumW_led φ u hN, sumW_led φ v hN]
  refine sumW_congr fun p hp => ?_
  obtain ⟨m, s, hs, e⟩ := row_eq (hR p hp)
  rw [e, adjW_row u φ m s hs, adjW_row v φ m s hs, h _ _ _ hs]
theorem same_home {T : Tb} (hN : Nd T) (hz : Nz T) (hR : Rw T) {w : List Nat} (hw : ∀ d ∈ w, d < 6) : SameT (ledT (ledT T w) (w.reverse.map inv)) (T.filterMap (shiftF (2 * w.length))) := by
  rw [led_append]
  have n2 : Nd (T.filterMap (shiftF (2 * w.length))) := nd_filterMap hN (apart_shift _ _)
  have z2 : Nz (T.filterMap (shiftF (2 * w.length))) := by
    intro p hp
    obtain ⟨q, hq, e⟩ := List.mem_filterMap.mp hp
    unfold shiftF at e
    cases e
    exact hz q hq
  refine same_of (nd_led _ hN) n2 (nz_led _ hz) z2 fun φ => ?_
  rw [sumW_led φ _ hN, sumW_filterMap φ (fun k => φ (dotsN (2 * w.length) k)) (fun p _ => rfl)]
  refine sumW_congr fun p hp => ?_
  obtain ⟨m, s, hs, e⟩ := row_eq (hR p hp)
  rw [e, adjW_row _ φ m s hs, home_eq w hw _ m s hs]
  show φ (rowS (m + 2 * w.length) s) = φ (dotsN (2 * w.length) (rowS m s))
  rw [dots_row]

/-- a table read -/
def readW (base : Int) (g : Nat) (k : Str) : Int := if lastC k = 120 + g then base ^ (k.cps.toList.length - 2) else 0
theorem read_eq (base : Int) (g : Nat) : ∀ (T : Tb), readT T base (120 + g) = sumW (readW base g) T
  | [] => rfl
  | p :: T => by
    rw [sumW_cons, ← read_eq base g T]
    unfold readT readW readF
    rw [List.filterMap_cons]
    by_cases h : lastC p.1 = 120 + g
    · simp only [if_pos h, List.sum_cons]
    · simp only [if_neg h, Int.mul_zero, Int.zero_add]
theorem readW_row (base : Int) (g m s : Nat) : readW base g (rowS m s) = if s = g then base ^ m else 0 := by
  unfold readW
  rw [last_row, len_row]
  by_cases h : s = g
  · rw [if_pos (by omega), if_pos h]; rfl
  · rw [if_neg (by omega), if_neg h]
def reads (base : Int) (T : Tb) : List Int := [sumW (readW base 0) T, sumW (readW base 1) T, sumW (readW base 2) T]

theorem sumW_rows {φ : Str → Int} {a b c : Int} {base : Int} {T : Tb} (hR : Rw T) (h : ∀ m s, s < 3 → φ (rowS m s) = a * readW base 0 (rowS m s) + (b * readW base 1 (rowS m s) + c * readW base 2 (rowS m s))) :
    sumW φ T = a * sumW (readW base 0) T + (b * sumW (readW base 1) T + c * sumW (readW base 2) T) := by
  rw [← sumW_mul, ← sumW_mul, ← sumW_mul, ← sumW_add, ← sumW_add]
  refine sumW_congr fun p hp => ?_
  obtain ⟨m, s, hs, e⟩ := row_eq (hR p hp)
  rw [e]
  exact h m s hs
end Mine
end
section -- PL5
namespace Mine
open PySem PySem.W PyProof.Rows
set_option maxRecDepth 100000

def cf (base : Int) (d g j : Nat) : Int :=
  if g = d % 3 then (if j = g then (if d < 3 then -1 else -(base * base)) else if near j g then base else 0) else (if j = g then (if d < 3 then base * base else 1) else 0)
theorem rhs_read (base : Int) (c : Nat → Int) (m s : Nat) (hs : s < 3) : c 0 * readW base 0 (rowS m s) + (c 1 * readW base 1 (rowS m s) + c 2 * readW base 2 (rowS m s)) = c s * base ^ m := by
  rw [readW_row, readW_row, readW_row]
  match s, hs with
  | 0, _ => simp
  | 1, _ => simp
  | 2, _ => simp
theorem near_self (o : Nat) : near o o = false := by
  unfold near
  simp
theorem adj_read (base : Int) (d g m s : Nat) (hs : s < 3) :
    adj d (readW base g) (rowS m s) = cf base d g 0 * readW base 0 (rowS m s) + (cf base d g 1 * readW base 1 (rowS m s) + cf base d g 2 * readW base 2 (rowS m s)) := by
  rw [adj_row d _ m s hs, rhs_read base (cf base d g) m s hs]
  have p1 : base ^ (m + 1) = base * base ^ m := by rw [Int.pow_succ, Int.mul_comm]
  have p2 : base ^ (m + 2) = base * base * base ^ m := by rw [show m + 2 = m + 1 + 1 from rfl, Int.pow_succ, p1, Int.mul_comm, Int.mul_assoc]
  unfold AD cf
  dsimp only
  rw [readW_row, readW_row, readW_row, p1, p2]
  by_cases ho : s = d % 3
  · rw [if_pos ho]
    by_cases hg : g = d % 3
    · rw [if_pos hg, if_pos (ho.trans hg.symm), if_pos (ho.trans hg.symm), if_pos (ho.trans hg.symm)]
      by_cases hd : d < 3
      · rw [if_pos hd, if_pos hd, Int.neg_mul, Int.one_mul]
      · rw [if_neg hd, if_neg hd, Int.neg_mul]
    · have hn : ¬ s = g := fun e => hg (e.symm.trans ho)
      rw [if_neg hg, if_neg hn, if_neg hn, if_neg hn]
      simp
  · rw [if_neg ho]
    by_cases hg : g = d % 3
    · have hn : ¬ s = g := fun e => ho (e.trans hg)
      rw [if_pos hg, if_neg hn, if_neg hn, if_neg hn, if_pos hg.symm, hg, ite_self, Int.zero_add]
      by_cases hr : near s (d % 3) = true
      · rw [if_pos hr, if_pos hr]
      · rw [if_neg hr, if_neg hr, Int.zero_mul]
    · rw [if_neg hg, if_neg (show ¬ d % 3 = g from fun e => hg e.symm), ite_self, Int.add_zero]
      by_cases hn : s = g
      · rw [if_pos hn, if_pos hn, if_pos hn]
        by_cases hd : d < 3
        · rw [if_pos hd, if_pos hd]
        · rw [if_neg hd, if_neg hd, Int.one_mul]
      · rw [if_neg hn, if_neg hn, if_neg hn, ite_self, Int.zero_mul]
theorem reads_done (base : Int) {T : Tb} (hN : Nd T) (hR : Rw T) {d : Nat} (hd : d < 6) : reads base (doneT T d) = toldStep base (reads base T) d := by
  have h : ∀ g, g < 3 → sumW (readW base g) (doneT T d) = cf base d g 0 * sumW (readW base 0) T + (cf base d g 1 * sumW (readW base 1) T + cf base d g 2 * sumW (readW base 2) T) := by
    intro g hg
    rw [sumW_done _ hN]
    exact sumW_rows hR fun m s hs => adj_read base d g m s hs
  unfold reads
  rw [h 0 (by decide), h 1 (by decide), h 2 (by decide)]
  generalize sumW (readW base 0) T = v0
  generalize sumW (readW base 1) T = v1
  generalize sumW (readW base 2) T = v2
  have h6 : d = 0 ∨ d = 1 ∨ d = 2 ∨ d = 3 ∨ d = 4 ∨ d = 5 := by omega
  rcases h6 with rfl | rfl | rfl | rfl | rfl | rfl <;> simp [toldStep, nextL, nearL, cf, near, List.range, List.range.loop, Int.neg_mul, Int.mul_add] <;> omega
end Mine
end
section -- PL6
namespace Mine
open PySem PySem.W PyProof.Rows
set_option maxRecDepth 100000

theorem reads_led (base : Int) : ∀ (w : List Nat) {n : Nat} {T : Tb}, Nd T → Keys (RowN n) T → (∀ d ∈ w, d < 6) → reads base (ledT T w) = toldT base (reads base T) w
  | [], _, _, _, _, _ => rfl
  | d :: w, n, T, hN, hK, hw => by
    have ih := reads_led base w (nd_done hN d) (rw_done hK d) fun e he => hw e (.tail _ he)
    show reads base (ledT (doneT T d) w) = toldT base (toldStep base (reads base T) d) w
    rw [ih, reads_done base hN (fun p hp => (hK p hp).1) (hw d (.head _))]
theorem reads_start (base : Int) (a b c : Int) : reads base (startOf [a, b, c]) = [a, b, c] := by
  have h : ∀ g, g < 3 → sumW (readW base g) (startOf [a, b, c]) = a * (if 0 = g then 1 else 0) + (b * (if 1 = g then 1 else 0) + (c * (if 2 = g then 1 else 0) + 0)) := by
    intro g _
    rw [start_eq, sumW_nz]
    show a * readW base g (rowOf (120 + 0)) + (b * readW base g (rowOf (120 + 1)) + (c * readW base g (rowOf (120 + 2)) + 0)) = _
    rw [rowOf_eq, rowOf_eq, rowOf_eq, readW_row, readW_row, readW_row]
    simp only [Int.pow_zero]
  unfold reads
  rw [h 0 (by decide), h 1 (by decide), h 2 (by decide)]
  simp

theorem piece_cases (c : Nat) : ∃ x ∈ braids, pieceT c = [x.1.map (fun d => ((d : Nat) : Int)), x.2.map (fun d => ((d : Nat) : Int))] := by
  have h2 : c / 5 % 2 = 0 ∨ c / 5 % 2 = 1 := by omega
  have h4 : c / 5 / 2 % 2 = 0 ∨ c / 5 / 2 % 2 = 1 := by omega
  unfold pieceT
  by_cases h : c % 5 < 4
  · rw [if_pos h]
    have h5 : c % 5 = 0 ∨ c % 5 = 1 ∨ c % 5 = 2 ∨ c % 5 = 3 := by omega
    rcases h5 with e | e | e | e <;> rw [e] <;> rcases h2 with e2 | e2 <;> rw [e2]
    · exact ⟨([0, 1, 0], [1, 0, 1]), by decide, rfl⟩
    · exact ⟨([1, 2, 1], [2, 1, 2]), by decide, rfl⟩
    · exact ⟨([0, 1, 3], [4, 0, 1]), by decide, rfl⟩
    · exact ⟨([1, 2, 4], [5, 1, 2]), by decide, rfl⟩
    · exact ⟨([3, 4, 3], [4, 3, 4]), by decide, rfl⟩
    · exact ⟨([4, 5, 4], [5, 4, 5]), by decide, rfl⟩
    · exact ⟨([0, 4, 3], [4, 3, 1]), by decide, rfl⟩
    · exact ⟨([1, 5, 4], [5, 4, 2]), by decide, rfl⟩
  · rw [if_neg h]
    rcases h2 with e2 | e2 <;> rw [e2] <;> rcases h4 with e4 | e4 <;> rw [e4]
    · exact ⟨([0, 2], [2, 0]), by decide, rfl⟩
    · exact ⟨([0, 5], [5, 0]), by decide, rfl⟩
    · exact ⟨([3, 2], [2, 3]), by decide, rfl⟩
    · exact ⟨([3, 5], [5, 3]), by decide, rfl⟩
theorem braids_ok (x : List Nat × List Nat) (hx : x ∈ braids) : (∀ d ∈ x.1, d < 6) ∧ (∀ d ∈ x.2, d < 6) ∧ (x.1.length = 2 ∨ x.1.length = 3) ∧ x.2.length = x.1.length := by
  simp only [braids, List.mem_cons, List.not_mem_nil, or_false] at hx
  rcases hx with rfl | rfl | rfl | rfl | rfl | rfl | rfl | rfl | rfl | rfl | rfl | rfl <;> decide

theorem cells_nonneg (ns : List Int) (k : Nat) : 0 ≤ cellAt ns k := by
  unfold cellAt
  rw [List.getD_eq_getElem?_getD]
  cases e : (cellsT ns)[k]? with
  | none => exact Int.le_refl 0
  | some v =>
    show 0 ≤ v
    have hm := List.mem_of_getElem? e
    unfold cellsT at hm
    rcases List.mem_append.mp hm with hm | hm
    · unfold drawnT at hm
      obtain ⟨z, _, rfl⟩ := List.mem_map.mp hm
      rw [Int.fmod_eq_emod_of_nonneg _ (by decide)]
      exact Int.emod_nonneg _ (by decide)
    · have := List.mem_of_mem_drop hm
      simp only [List.mem_cons, List.not_mem_nil, or_false] at this
      omega
theorem mod_small (c : Int) (n : Nat) (hn : 0 < n) : ∃ d : Nat, c.fmod n = (d : Int) ∧ d < n := by
  rw [Int.fmod_eq_emod_of_nonneg _ (Int.natCast_nonneg _)]
  have h1 := Int.emod_nonneg c (b := (n : Int)) (by omega)
  have h2 := Int.emod_lt_of_pos c (b := (n : Int)) (by omega)
  exact ⟨(c % n).toNat, by omega, by omega⟩

theorem wN_cast (ds : List Nat) : wN (ds.map fun d => ((d : Nat) : Int)) = ds := by
  unfold wN
  rw [List.map_map]
  exact (List.map_congr_left fun d _ => by simp).trans (List.map_id ds)
theorem word_ok {ds : List Nat} (h : ∀ d ∈ ds, d < 6) (h0 : ds ≠ []) (hl : ds.length ≤ 5) : WordOk (ds.map fun d => ((d : Nat) : Int)) := by
  refine ⟨by rw [wN_cast], ?_, ?_, ?_⟩ <;> rw [wN_cast] <;> assumption
theorem homeW_cast (ds : List Nat) : homeW (ds.map fun d => ((d : Nat) : Int)) = (ds.reverse.map inv).map fun d => ((d : Nat) : Int) := by
  unfold homeW
  rw [← List.map_reverse, List.map_map, List.map_map]
  apply List.map_congr_left
  intro d _
  show (((d : Nat) : Int) + 3).fmod 6 = ((inv d : Nat) : Int)
  rw [show ((d : Nat) : Int) + 3 = ((d + 3 : Nat) : Int) from by omega]
  exact fmod_nat (d + 3) 6

theorem counts_small (ns : List Int) (i : Nat) : ((countsT ns).getD i 0).natAbs ≤ 20 := by
  obtain ⟨a, ha, ha'⟩ := mod_small (cellAt ns 0) 41 (by decide)
  obtain ⟨b, hb, hb'⟩ := mod_small (cellAt ns 1) 41 (by decide)
  obtain ⟨c, hc, hc'⟩ := mod_small (cellAt ns 2) 20 (by decide)
  have ha2 : (cellAt ns 0).fmod 41 = (a : Int) := ha
  have hb2 : (cellAt ns 1).fmod 41 = (b : Int) := hb
  have hc2 : (cellAt ns 2).fmod 20 = (c : Int) := hc
  unfold countsT
  rw [ha2, hb2, hc2]
  match i with
  | 0 => show ((a : Int) - 20).natAbs ≤ 20; omega
  | 1 => show ((b : Int) - 20).natAbs ≤ 20; omega
  | 2 => show ((c : Int) + 1).natAbs ≤ 20; omega
  | i + 3 => show (0 : Int).natAbs ≤ 20; decide

theorem nrm_mem : ∀ {T : Tb} {p : Str × Int}, p ∈ T → p.2.natAbs ≤ nrm T
  | q :: T, p, hp => by
    rw [nrm_cons]
    rcases List.mem_cons.mp hp with rfl | hp
    · omega
    · have := nrm_mem hp; omega

/-- the plain law -/
theorem plain (ns : List Int) : Plain ns := by
  obtain ⟨x, hx, hp⟩ := piece_cases (cellAt ns 4).toNat
  obtain ⟨h1, h2, h3, h4⟩ := braids_ok x hx
  obtain ⟨a, ha, ha'⟩ := mod_small (cellAt ns 3) 6 (by decide)
  obtain ⟨b, hb, hb'⟩ := mod_small (cellAt ns 5) 6 (by decide)
  have ha2 : (cellAt ns 3).fmod 6 = (a : Int) := ha
  have hb2 : (cellAt ns 5).fmod 6 = (b : Int) := hb
  have w0 : word0 ns = ([a] ++ x.1 ++ [b]).map fun d => ((d : Nat) : Int) := by
    unfold word0 wordOf
    rw [hp, ha2, hb2]
    simp
  have w1 : word1 ns = ([a] ++ x.2 ++ [b]).map fun d => ((d : Nat) : Int) := by
    unfold word1 wordOf
    rw [hp, ha2, hb2]
    simp
  have hu : ∀ d ∈ [a] ++ x.1 ++ [b], d < 6 := by
    intro d hd
    simp only [List.mem_append, List.mem_cons, List.not_mem_nil, or_false] at hd
    rcases hd with (rfl | hd) | rfl
    · exact ha'
    · exact h1 d hd
    · exact hb'
  have hv : ∀ d ∈ [a] ++ x.2 ++ [b], d < 6 := by
    intro d hd
    simp only [List.mem_append, List.mem_cons, List.not_mem_nil, or_false] at hd
    rcases hd with (rfl | hd) | rfl
    · exact ha'
    · exact h2 d hd
    · exact hb'
  have hlu : ([a] ++ x.1 ++ [b]).length = 4 ∨ ([a] ++ x.1 ++ [b]).length = 5 := by simp; omega
  have hlv : ([a] ++ x.2 ++ [b]).length ≤ 5 := by simp; omega
  have hbr : ∀ f m s, s < 3 → AW ([a] ++ x.1 ++ [b]) f m s = AW ([a] ++ x.2 ++ [b]) f m s := by
    intro f m s hs
    rw [AW_append, AW_append, AW_append, AW_append]
    exact AW_congr [a] (fun m s hs => braid_eq x hx _ m s hs) m s hs
  have n0 := nd_start (countsT ns)
  have z0 := nz_start (countsT ns)
  have r0 := rw_start (countsT ns)
  have k0 := start_keys (countsT ns)
  generalize hU : [a] ++ x.1 ++ [b] = u at w0 hu hlu hbr
  generalize hV : [a] ++ x.2 ++ [b] = v at w1 hv hlv hbr
  have eu : wN (word0 ns) = u := by rw [w0, wN_cast]
  have ev : wN (word1 ns) = v := by rw [w1, wN_cast]
  have eh : wN (homeW (word0 ns)) = u.reverse.map inv := by rw [w0, homeW_cast, wN_cast]
  have hinv : ∀ d ∈ u.reverse.map inv, d < 6 := by
    intro d hd
    obtain ⟨e, _, rfl⟩ := List.mem_map.mp hd
    exact Nat.mod_lt _ (by decide)
  have hne : ∀ {l : List Nat}, l.length = u.length → l ≠ [] := fun hl e => by rw [e] at hl; simp at hl; omega
  have hlw : (word0 ns).length = u.length := by rw [w0, List.length_map]
  refine ⟨cells_nonneg ns 4, ?_, ?_, ?_, ?_, ?_, ?_, ?_, ?_⟩
  · rw [w0]; exact word_ok hu (hne rfl) (by omega)
  · rw [w1]; refine word_ok hv ?_ hlv
    rw [← hV]; simp
  · rw [w0, homeW_cast]; exact word_ok hinv (hne (by simp)) (by simp; omega)
  · rw [hlw]; exact hlu
  · unfold tab0 tab1
    rw [eu, ev]
    exact same_tabs n0 z0 r0 hbr
  · unfold tab0
    rw [eh, eu, hlw]
    exact same_home n0 z0 r0 hu
  · unfold tab0
    rw [eu]
    have h := reads_led 1000000 u n0 k0 hu
    have hs : reads 1000000 (start0 ns) = countsT ns := reads_start 1000000 _ _ _
    rw [hs] at h
    rw [← h, show (120 : Nat) = 120 + 0 from rfl, show (121 : Nat) = 120 + 1 from rfl, show (122 : Nat) = 120 + 2 from rfl, read_eq, read_eq, read_eq]
    rfl
  · intro p hp
    unfold tab0 at hp
    rw [eu] at hp
    have h1 := nrm_mem hp
    have h2 := nrm_led u n0
    have h3 := nrm_start (countsT ns) fun i _ => counts_small ns i
    have h4 : 4 ^ u.length ≤ 1024 := by rcases hlu with e | e <;> rw [e] <;> decide
    have h5 := Nat.mul_le_mul h4 h3
    exact Nat.lt_of_le_of_lt (Nat.le_trans h1 (Nat.le_trans h2 h5)) (by decide)
end Mine
end
section -- H0
namespace Mine
open PySem PySem.W PySem.Calls PyProof.Rows
set_option maxRecDepth 100000

theorem caller_clean : Clean (⟨.builtin "claim.caller" {}, none, none, [], none⟩ : PySem.Ctx) := ⟨by decide +kernel, fun x hx => nomatch hx⟩

/-- a walk whose end stands at the caller's own stack -/
abbrev WalkS (q : Program) (loose : List Str) (XP : (Str → Option Value) → Heap → Prop) (YP : World → Heap → Prop) (r : RowW) (d : DefRec) (kwd : List (Str × PySem.Expr)) : Prop :=
  ∀ (w : World) (s₀ s₁ : Shared) (mg mb : Str → Option Value), Ground q loose r.records XP w s₀ mg mb s₁.heap → YP w s₁.heap → ∀ (a : Addr) (o : Obj) (pm cd doc dV kV : Value), s₁.heap.get? a = some o →
    o.data = .func { docDef d.name d.params d.body d.scope pm cd doc with defaults := dV, kwdefaults := kV } → s₁.heap.CodeRec cd d.name → Dflts mg s₁.heap d.params kwd dV kV → mg d.name = some (.ref a) → s₁.gens = #[] →
    ∀ (args : List WData) (vals : List Value) (as : List Addr), r.claim.pre args = true → WData.layableAll args = true → ReadsAllW r.records (classAt s₀.heap) s₁.heap vals args as → WellAll w.params s₁.heap vals args → (∀ a ∈ as, (a == sysModules) = false) →
      wpS (model r.prog w) callerA (call (.ref a) vals) (fun v s' => GoodWG r.claim (classAt s₀.heap) (ExcName.means s₀.heap) args s₁ (.ok (.ret v)) s') No s₁

theorem ends_S {prog : Program} {w : World} {t : Sem PySem.Fin} {s : Shared} {R : Result → Shared → Prop} (hz : s.asleep)
    (h : wpS (model prog w) callerA t (fun fin s' => ∃ f, fin = .done f ∧ R (.ok f) s' ∧ leftWithCleanup s'.gens = false) No s) :
    ∃ n r s' s'', runN (denote table) prog w n s ⟨t, .builtin "claim.caller" {}, default, []⟩ = .halted (outcomeOf r) s' ∧
      schedN (denote table) prog w n (.single s ⟨t, .builtin "claim.caller" {}, default, []⟩) = .halted (outcomeOf r) s' ∧ s'.forget = s''.forget ∧ R r s'' := by
  have h' : Sem.wp (model prog w) ⟨.builtin "claim.caller" {}, none, none, [], none⟩ t (Sem.finPost (model prog w) ⟨.builtin "claim.caller" {}, none, none, [], none⟩ fun r s' => R r s' ∧ leftWithCleanup s'.gens = false)
      (fun e _ s' => R (.error e) s' ∧ leftWithCleanup s'.gens = false) default s := by
    refine Sem.wp_mono _ _ _ (fun fin p s' hq => ?_) (fun _ _ _ hq => hq.elim) _ _ (h _ default caller_in caller_clean)
    obtain ⟨f, rfl, hf⟩ := hq
    exact hf
  obtain ⟨n, r, s₁, s₂, hs, hn, hfo, hR⟩ := wp_halts_full (M := model prog w) (R := R) hz h'
  exact ⟨n, r, s₂, s₁, hn, hs, hfo, hR⟩

end Mine

open PySem PySem.W PySem.Calls PyProof.Rows Mine
namespace MineHd
/-- the head, for a walk at the caller's own stack -/
theorem PySem.W.holds_open {r : OpenRow} {q : Program} {loose : List Str} {Xt : Shared → Bool} {XP : (Str → Option Value) → Heap → Prop} {α : Type} {Yf : Shared → α} {Ya : World → α} {YP : World → Heap → Prop} {d : DefRec} {kwd : List (Str × PySem.Expr)} {N : Nat}
    (left : LeftO r.prog q loose Xt Yf Ya N) (hY : ∀ w s, Yf s = Ya w → YP w s.heap) (hYk : ∀ w h h', YP w h → (∀ b o, h.get? b = some o → h'.get? b = some o) → YP w h')
    (hX : ∀ s, Xt s = true → XP (s.heap.nsMap mainGlobals) s.heap) (hXk : ∀ mg h h', XP mg h → (∀ b o, h.get? b = some o → h'.get? b = some o) → XP mg h')
    (hdef : defOf q r.name = some (d, kwd)) (hp : r.prog.theDef r.name = some (d.params, d.body, d.scope)) (hk : kwWritten? d.params.kwonlyargs d.params.kw_defaults = some kwd) (hRf : ∀ s, Xt s = true → RecFacts r.records s.heap) (hwr : (!r.writes || r.records.isEmpty) = true)
    (k1 : r.wellSaid = true) (ok : (chainsOk q && opensWell r.prog && (frees r.toRowW && r.within.isEmpty)) = true) (hb : r.prog.bare) (hw : r.toRowW.promised)
    (walk : WalkS q loose XP YP r.toRowW d kwd) : r.Holds := by
  rw [Bool.and_eq_true, Bool.and_eq_true, Bool.and_eq_true] at ok
  obtain ⟨⟨okc, oko⟩, okf, okw⟩ := ok
  obtain ⟨fs, fu, fa, fp, fm⟩ := frees_parts okf
  have none_within : r.toRowW.claim.within = [] := List.isEmpty_iff.mp okw
  refine ⟨k1, hw, ⟨hb, oko, by show r.makers.map _ = []; rw [fm]; rfl⟩, hw.witness, fun w => ⟨(left.behind hX okc w).1, fun sB hB => ?_⟩⟩
  obtain ⟨sF, fenced, noG, sT, top, asleep, gensT, nsT, ground, y⟩ := (left.behind (XP := fun mg h => XP mg h ∧ RecFacts r.toRowW.records h) (fun s hs => ⟨hX s hs, hRf s hs⟩) okc w).2 sB hB
  have G0 : Ground q loose [] XP w sT (sT.heap.nsMap mainGlobals) (sT.heap.nsMap builtinsNs) sT.heap := ⟨ground.T, ground.B, ground.D, ground.TE, ground.TD, ground.W, ground.X.1, ground.cls, ground.has, ground.apart, ground.once, ground.K⟩
  have RF := ground.X.2
  have G : Ground q loose r.toRowW.records XP w sT _ _ sT.heap := RF.ground G0
  have gens0 : sT.gens = #[] := Array.eq_empty_of_size_eq_zero (beq_iff_eq.mp gensT)
  refine ⟨sF, fenced, noG, sT, top, fun n hn => ?_, RF.1, RF.2.1, ?_⟩
  · have e : n = r.name := by split at hn <;> simp_all
    rw [e]
    exact pinned_of_view nsT G0 hdef hp hk
  intro args pre lay ord perm
  obtain ⟨⟨vs, s1⟩, laid⟩ := Option.isSome_iff_exists.mp (layAllW_isSome (P := w.params) (ord := ord) G.has args r.toRowW.args sT (pre_splitW pre).1)
  have keeps := layAllW_keeps _ _ _ laid
  have rest := layAllW_rest _ _ _ laid
  obtain ⟨as, hrd, hin, hold⟩ := reads_layAllW perm _ _ _ laid lay s1.heap (fun _ _ e => e)
  have L : Laid r.toRowW.records w sT s1 args vs as := ⟨⟨ord, perm, laid⟩, hrd, hin, hold, keeps, rest.1.trans gens0, rest.2.2.1⟩
  have G1 := G.keeps hXk keeps
  obtain ⟨a, o, pm, cd, doc, dV, kV, e1, e2, e3, e4, e5⟩ := G1.fn hdef
  have ran := walk w sT s1 _ _ G1 (hYk _ _ _ (hY w sT y) keeps) a o pm cd doc dV kV e2 e3 e4 e5 (defOf_name hdef ▸ e1) L.gens args vs as pre lay L.reads L.well (L.low G.low)
  have whole : wpS (model r.prog w) callerA (callStub r.name vs).cur (fun fin s' => ∃ f, fin = .done f ∧ GoodWG r.toRowW.claim (classAt sT.heap) (ExcName.means sT.heap) args s1 (.ok f) s' ∧ leftWithCleanup s'.gens = false) No s1 := by
    show wpS _ _ (do match ← nsGet mainNs r.name with
      | some f => do ret (← PySem.call f vs)
      | none => unsupported "claim.caller:no-such-global") _ _ _
    refine wpS_then (wpAny_nsGet G1.T.g ?_)
    rw [e1]
    refine wpS_bind (wpS_mono ran (fun v s' g => wpS_of (wpAny_pure ⟨_, rfl, g, leftWithCleanup_false_of_bare g.2.2.2⟩)) fun _ _ x => x)
  obtain ⟨n, res, s', s'', hrun, hsched, hfo, g⟩ := ends_S (R := fun res s'' => GoodWG r.toRowW.claim (classAt sT.heap) (ExcName.means sT.heap) args s1 res s'') (Shared.asleep_of_life rest.2.2.2 asleep) whole
  obtain ⟨eh, _, _, eo, _⟩ := Shared.forget_eq hfo
  obtain ⟨z1, z2, _⟩ := g.laid (c := r.toRowW.claim) fs none_within (ident_freeW fu fa fp) L
  have ends := z1.congr eh
  have oss : s'.os = sT.os := eo.trans z2
  have life : s'.heap.life = sT.heap.life := (runN_life _ _ _ hrun).trans rest.2.2.2
  have old : ∀ b o, s1.heap.get? b = some o → asItWas s1.heap s'.heap b o := by
    intro b o e
    rw [eh]
    exact g.2.1.old b o e
  refine ⟨vs, s1, laid, n, _, s', hsched, ?_, (fun _ i x hx => by rw [gens0] at hx; simp at hx), fun q => ⟨namesKept_of top nsT r.keeps keeps old, noTable hwr q⟩, by rw [life], Shared.rest_eq oss⟩
  rcases ends with ⟨v, rfl, d1, d2, d3, d4, d5⟩ | ⟨e, ob, cls, rfl, d1, d2, d3, d4, d5⟩
  · exact .inl ⟨v, rfl, d1, d2, d3, fun b o h _ => d4 b o h, d5⟩
  · exact .inr ⟨e, ob, cls, rfl, d1, d2, d3, d4, fun b o h _ => d5 b o h⟩
end MineHd
end
section -- H1
open PySem PySem.W PySem.Calls PyProof.Rows Mine
namespace MineHd
set_option maxRecDepth 100000 in
set_option maxHeartbeats 8000000 in
open_top hd for PySem.Challenge.rw_wn0004_01
end MineHd
end
section -- W0
open PySem PySem.W PySem.Calls PyProof.Rows Mine
namespace MineHd
set_option maxRecDepth 100000
section
variable {w : World} {mg mb : Str → Option Value} {h : Heap} {loose : List Str} {mean : ExcName → Option Value} {p : Program}
theorem fn_of {P : Params} (KX : (hd.heap_39 P).In h) {a : Addr} {name : Str} {i : Nat} {c : Addr} {o oc : Obj} {vs : Array Value} {t : Tok} {doc pm ct : Value} {an : Option Addr} (e : (hd.heap_39 P).lookup a = some o)
    (hd : o.data = .func (fnOf name name (argsOf i) (bodyOf i) (scopeOf i) .none .none doc pm an (.ref c) ct)) (ec : (MineHd.hd.heap_39 P).lookup c = some oc) (hc : oc.data = .fields vs) (hq : vs[1]? = some (.str name t)) : FnAt h a name i (.ref c) :=
  ⟨o, doc, pm, ct, an, KX _ _ e, hd, ⟨c, oc, vs, t, rfl, KX _ _ ec, hc, hq⟩⟩
set_option maxHeartbeats 4000000 in
theorem wd {P : Params} (KX : (hd.heap_39 P).In h) (T : Top p loose mean mg mb h) : Wd mg mb h where
  g := T.g
  b := T.b
  lim := T.nolimit
  bi := T.builtins
  f_isinstance := mg_none_of KX T.g (by rfl)
  f_tuple := mg_none_of KX T.g (by rfl)
  f_list := mg_none_of KX T.g (by rfl)
  f_zip := mg_none_of KX T.g (by rfl)
  f_len := mg_none_of KX T.g (by rfl)
  f_range := mg_none_of KX T.g (by rfl)
  f_bytearray := mg_none_of KX T.g (by rfl)
  f_bytes := mg_none_of KX T.g (by rfl)
  f_sum := mg_none_of KX T.g (by rfl)
  f_enumerate := mg_none_of KX T.g (by rfl)
  f_abs := mg_none_of KX T.g (by rfl)
  f_int := mg_none_of KX T.g (by rfl)
  g2 := ⟨38, .ref 37, mg_of KX T.g (by rfl), fn_of KX rfl rfl rfl rfl rfl⟩
  g7 := ⟨55, .ref 54, mg_of KX T.g (by rfl), fn_of KX rfl rfl rfl rfl rfl⟩
  g9 := ⟨62, .ref 61, mg_of KX T.g (by rfl), fn_of KX rfl rfl rfl rfl rfl⟩
  g11 := ⟨67, .ref 66, mg_of KX T.g (by rfl), fn_of KX rfl rfl rfl rfl rfl⟩
  g12 := ⟨72, .ref 71, mg_of KX T.g (by rfl), fn_of KX rfl rfl rfl rfl rfl⟩
  g13 := ⟨77, .ref 76, mg_of KX T.g (by rfl), fn_of KX rfl rfl rfl rfl rfl⟩
  g14 := ⟨84, .ref 83, mg_of KX T.g (by rfl), fn_of KX rfl rfl rfl rfl rfl⟩
  g15 := ⟨89, .ref 88, mg_of KX T.g (by rfl), fn_of KX rfl rfl rfl rfl rfl⟩
  g16 := ⟨94, .ref 93, mg_of KX T.g (by rfl), fn_of KX rfl rfl rfl rfl rfl⟩
  pat1 := ⟨43, mg_of KX T.g (by rfl), _, _, _, 42, _, 0, KX 43 _ rfl, rfl, rfl, rfl, KX 42 _ rfl, by first | kernel_rfl | simp [code1]⟩
  pat2 := ⟨48, mg_of KX T.g (by rfl), _, _, _, 47, _, 0, KX 48 _ rfl, rfl, rfl, rfl, KX 47 _ rfl, by first | kernel_rfl | simp [code2]⟩
  crlf := ⟨_, mg_of KX T.g (by rfl)⟩
end
end MineHd
end
section -- H3
open PySem PySem.W PySem.Calls PyProof.Rows Mine
namespace MineHd
set_option maxRecDepth 100000
theorem fa_eq {mg : Str → Option Value} {a b : Addr} (h1 : mg (Str.ofString "law") = some (.ref a)) (h2 : mg (Str.ofString "law") = some (.ref b)) : a = b := by
  rw [h1] at h2; cases h2; rfl
set_option maxHeartbeats 8000000 in
theorem whole : PySem.Challenge.rw_wn0004_01.Holds := hd (by
  k_fill
  intro w s₀ s₁ mg mb G Y fa o pm cd doc dV kV ho hdat hcd hD hmg hg args vals as hpre hlay hrd hwl hlo
  have KX := kIn_of Y
  have X := (Ground.X G).1
  have T := G.T
  have Wl := wd KX T
  have e99 := (show mg (Str.ofString "law") = some (.ref 99) from mg_of KX T.g (by rfl))
  have efa := fa_eq hmg e99
  clear hdat hcd hD ho
  have F : FnAt s₁.heap 99 (Str.ofString "law") 17 (.ref 98) := fn_of KX rfl rfl rfl rfl rfl
  subst efa
  wrow_args hpre hlay hrd hwl hlo
  rename_i ns _ _ _ _ _ _ _ l vs _ hl _ _ _ hi _ hlen _
  refine wpS_call ?_
  refine call_law F Wl ⟨rfl, by decide, by decide⟩ (by decide) hl hi (by omega) (plain ns) ?_
  intro h' tk hk
  exact GoodW.toG ⟨.inl ⟨.bool true, .bool true, [], rfl, fun _ => rfl, .bool true, (by wrow_post), fun _ => ⟨List.nodup_nil, fun _ hm => nomatch hm⟩⟩, hk, rfl, hg⟩)
end MineHd
end
theorem PySem.Challenge.cw_wn0004_01_holds : PySem.Challenge.rw_wn0004_01.Holds := by
  exact MineHd.whole
